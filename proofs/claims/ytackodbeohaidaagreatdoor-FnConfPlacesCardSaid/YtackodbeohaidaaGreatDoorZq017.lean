/-
  Texts joined: Pd Pe Pf Pl Ph Pi Pg.
-/
import Derived.Test.YtackodbeohaidaaGreatDoorZq05
import Derived.Test.YtackodbeohaidaaGreatDoorZq09
import Derived.Test.YtackodbeohaidaaGreatDoorZq010
import Derived.Test.YtackodbeohaidaaGreatDoorZq011
import Derived.Test.YtackodbeohaidaaGreatDoorZq016
import Derived.Deep.RegionLaw
namespace Go.Cf
open Go.RowKit Go.Conc Go.Proofs
attribute [local go_sem ↓] ta_61_75 ta_75_75 ta_61_61 ta_75_61 ta_113_113
theorem insL_perm {α:Type} (x:ByteArray × α):∀ l:List (ByteArray × α),(insL x l).Perm (x :: l)
 | []=>.refl _
 | y :: r=>by
  simp only [insL]
  split
  ·exact .refl _
  ·exact ((insL_perm x r).cons y).trans (.swap x y r)
theorem nodup_put {α:Type} {z:List (ByteArray × α)} (f:α→Value) (k:ByteArray) (x:α) (h:(z.map fun p=>f p.2).Nodup) (hx:∀ p ∈ z,f p.2 ≠ f x):((putL k x z).map fun p=>f p.2).Nodup:=by
 unfold putL;rw [((insL_perm (k,x) _).map fun p=>f p.2).nodup_iff,List.map_cons,List.nodup_cons];refine ⟨fun hm=>?_,h.sublist (List.filter_sublist.map _)⟩;obtain ⟨p,hp,e⟩:=List.mem_map.1 hm;exact hx p (List.mem_filter.1 hp).1 e
section
variable {B ℓ:Nat} {lab lab1:Lab} {w w1:World} {K:PK} {X:PQ} {M:Nat→Prop}
theorem Tok.ne {τ g:Nat} {i:TI} {x:Value} (h:Tok τ lab w i x) (hg:lab g ≠ τ):x ≠ .iface 113 (.pointer (some ⟨g,0,none⟩)):=by
 obtain ⟨b,c0,c1,c3,u,rfl,hc,_⟩:=h;intro e;simp only [Value.iface.injEq,Value.pointer.injEq,Option.some.injEq,Addr.mk.injEq,true_and,and_true] at e;subst e;exact hg hc.2
theorem put_mpv {b n:Nat} (s:ByteArray) (y:TI × Value) (z:List (ByteArray × TI × Value)) {D:DataW Value} (hD:D=entD ((z.map fun x=>(x.1,x.2.2)).map fun x=>((x.1,.tr true,x.2):Ent))) (h:w.ownsMap Tryz.prog 9 anyR b n (D.put (.string s.data.toList) (.held y.2))) (hl:lab b=ℓ) :
  MpV ℓ lab w b ((putL s y z).map fun x=>(x.1,x.2.2)):=by
 subst hD;refine ⟨?_,hl⟩;rw [put_entD s (.tr true,y.2)] at h;have e1:=putL_map (fun p:TI × Value=>p.2) s y z;have e2:=putL_map (fun v:Value=>((.tr true,v):JV × Value)) s y.2 (z.map fun x=>(x.1,x.2.2));rw [← e1] at e2;rw [e2];exact Mp.exact h
set_option maxRecDepth 100000 in
set_option maxHeartbeats 4000000 in
theorem setValueQ_map (m:List (ByteArray × TI)) (cs:List CQ) (st:List ByteArray) (s:ByteArray) (lst:List Int) (ln:Int) (h:QAt B lab w K X) (hcx:X.cx=.map m :: cs) (hks:X.ks=st ++ [s]) (hls:X.ls=lst ++ [ln])
  (hlen:st.length≤1000000) (hll:lst.length≤1000000) (hm:m.length≤1000000) (hs:s.size≤1000000) (g:Nat) (c0 c1:Value) (l0 p0:Int) (j:TV) (u:Value) (htk:Cl 11 lab w g (tkC c0 c1 p0 u (l0,false)) 115) (hj:isV lab w j u) :
  Calls Tryz.prog 63 #[.pointer (some ⟨K.p,0,none⟩),.iface 113 (.pointer (some ⟨g,0,none⟩))] w fun e w'=>e=.returned (.tuple #[])∧∃ lab',QAt B lab' w' K { X with cx:=.map (putL s ((ln,false),j) m) :: cs,ks:=st,ls:=lst }∧Mv PM w lab w' lab':=by
 obtain ⟨top,cv,kv,iv,vs,h⟩:=h;obtain ⟨v,vs',rfl,hc,hcs⟩:=CsAtQ.form (hcx ▸ h.cs);obtain ⟨b,z,rfl,hmp,hz,htoks,hnd⟩:=hc;have htop:top=.iface 61 (.map (some b)):=by have:=h.top;simp at this;exact this.symm
 subst htop;have c2:w.cell? ⟨K.p,2,none⟩=some (.iface 61 (.map (some b))):=h.cl.cell 2;have hne:b ≠ g:=by
  rintro rfl;have:=hmp.2;rw [htk.2] at this;omega
 have hzl:z.length=m.length:=by rw [← hz];simp
 have HCX:=Lib.hid (aI hcx hls);clear hcx hls;go_enter Tryz.func63,Tryz.ntmps63;go_wp2_with fail;refine (popKeyQ st s h hks hlen).mono ?_;rintro e w1 ⟨rfl,⟨kv1,h1⟩,m1⟩;have c7:w1.cell? ⟨K.p,7,none⟩=some (.bool K.ped):=h1.cl.cell 7;rw [h.ped] at c7;obtain ⟨its,hits,hrow⟩:=h1.iv;rw [show ({ X with ks:=st }:PQ).ls=lst ++ [ln] from HCX.out.2] at hits;obtain ⟨its',x,rfl,hi1,hi2⟩:∃ its' x,its=its' ++ [x]∧its'.map (·.line)=lst∧x.line=ln:=by
  obtain ⟨a,b,rfl,h1,h2⟩:=List.map_eq_append_iff.1 hits;obtain ⟨x,rfl,h3⟩:∃ x,b=[x]∧x.line=ln:=by
   match b,h2 with
   | [x],h2=>exact ⟨x,rfl,by simpa using h2⟩
  exact ⟨a,x,rfl,h1,h3⟩
 have hil:its'.length≤1000000:=by rw [← hi1,List.length_map] at hll;exact hll
 rw [List.length_append,List.length_singleton] at hrow;have htk1:=htk.mv m1 (by decide);have hmp1:=hmp.mv m1 (by omega);have hj1:=isV.mv m1 (by decide) _ _ hj;have htoks1:∀ x ∈ z,Tok (tauP cs.length) lab w1 x.2.1 x.2.2:=fun x hx=>(htoks x hx).mv m1 (by unfold tauP;split <;> decide) (by decide)
 have hcs1:=hcs.mv m1 (by decide) (by decide) (fun i _=>by omega);clear htk hmp hj htoks hcs hits;go_wp2_with fail;refine (popItemQ (K:={ K with iv:=iv }) its' x h1.cl hrow hil).mono ?_;rintro e w2 ⟨rfl,lab2,v2,hcl2,hrow2,m2⟩;obtain ⟨xt,xv,xl,xp⟩:=x;obtain rfl:xl=ln:=hi2;have htk2:=htk1.mv m2 (by decide);have hmp2:=hmp1.mv m2 (by omega);have hj2:=isV.mv m2 (by decide) _ _ hj1;have htoks2:∀ x ∈ z,Tok (tauP cs.length) lab2 w2 x.2.1 x.2.2:=fun x hx=>(htoks1 x hx).mv m2 (by unfold tauP;split <;> decide) (by decide)
 have hcs2:=hcs1.mv m2 (by decide) (by decide) (fun i _=>by omega);have hlx2:=h1.lx.mv m2 (by decide);have hcv2:=h1.cv.mv m2 (by decide);have hkv2:=h1.kv.mv m2 (by decide);have q2:w2.cell? ⟨g,2,none⟩=some (i64 l0):=htk2.cell 2;have q3:w2.cell? ⟨g,3,none⟩=some (i64 p0):=htk2.cell 3;have f2:w2.frozen? ⟨g,2,none⟩=false:=htk2.free 2;have f3:w2.frozen? ⟨g,3,none⟩=false:=htk2.free 3;have hlt:=lt_of_block htk2.1;have hne2:g ≠ w2.heap.size:=by omega
 have M12:=(m1.mono (M':=PM) (by rintro x rfl;decide)).trans m2 (by rintro x rfl;decide);have htop1:=h1.top;have hroot1:=h1.root;have hped:=h.ped;have HCL:=Lib.hid hcl2;have HROW:=Lib.hid hrow2;have HTOK:=Lib.hid htoks2;have HCS:=Lib.hid hcs2;have HREST:=Lib.hid (aI hlx2 (aI hcv2 hkv2));have HND:=Lib.hid hnd;have HTR:=Lib.hid (aI htop1 (aI hroot1 hped));have HI1:=Lib.hid hi1;have HJ2:=Lib.hid hj2;have HZ:=Lib.hid hz;clear htk1 hmp1 m1 m2 h h1 c2 c7 hj1 htoks1 hcs1 hrow hcl2 hrow2 htoks2 hcs2 hlx2 hcv2 hkv2 hnd htop1 hroot1 hped hi1 hj2;simp only [It.v];obtain ⟨D,hD⟩:∃ D,D=entD ((z.map fun x=>(x.1,x.2.2)).map fun x=>((x.1,.tr true,x.2):Ent)):=⟨_,rfl⟩;obtain ⟨n,hn⟩:∃ n,n=((z.map fun x=>(x.1,x.2.2)).map fun x=>((x.1,.tr true,x.2):Ent)).length:=⟨_,rfl⟩;have hnm:n=m.length:=by rw [hn];simp [hzl]
 have hmo:=hmp2.1;rw [← hD,← hn] at hmo;have HD:=Lib.hid hD;have HNM:=Lib.hid hnm;clear hD hn hnm;go_wp2_with (at_mapUpdate;refine wpList_mapUpdate_own _ rfl _ _ _ 61 rfl 9 20 (Maps.string_keyed Tryz.underlying9) Tryz.underlying61 anyR b n D rfl ?_ ?_ (.string s) (.iface 113 (.pointer (some ⟨g,0,none⟩))) (.string s.data.toList) rfl rfl (WideMaps.keyOf_string_mk (P:=Tryz.prog) Tryz.underlying9 ?_) (.held (.iface 113 (.pointer (some ⟨g,0,none⟩)))) [] rfl ?_)
 ·exact ((hmo.setCell (a:=⟨g,3,none⟩) hne (.int .i64 xp)).setCell (a:=⟨g,2,none⟩) hne (.int .i64 xl)).alloc _
 ·have:=HNM.out;unfold maxLen;omega
 ·unfold maxLen;omega
 intro w3 hown3 hg3;have ma:Mv (·=11) w2 lab2 (w2.setCell ⟨g,3,none⟩ (.int .i64 xp)) lab2:=Mv.setCell _ _ _ _ htk2.2;have mb:Mv (·=11) (w2.setCell ⟨g,3,none⟩ (.int .i64 xp)) lab2 ((w2.setCell ⟨g,3,none⟩ (.int .i64 xp)).setCell ⟨g,2,none⟩ (.int .i64 xl)) lab2:=Mv.setCell _ _ _ _ htk2.2;have hsz:((w2.setCell ⟨g,3,none⟩ (.int .i64 xp)).setCell ⟨g,2,none⟩ (.int .i64 xl)).heap.size=w2.heap.size:=by simp [World.setCell]
 have mc:Mv (fun _=>False) ((w2.setCell ⟨g,3,none⟩ (.int .i64 xp)).setCell ⟨g,2,none⟩ (.int .i64 xl)) lab2 (((w2.setCell ⟨g,3,none⟩ (.int .i64 xp)).setCell ⟨g,2,none⟩ (.int .i64 xl)).alloc (Obj.cells #[i64 xt,Value.string xv,i64 xl,i64 xp] 98)) (lab2.ext w2.heap.size 7):=by
  have:=Mv.alloc (M:=fun _=>False) ((w2.setCell ⟨g,3,none⟩ (.int .i64 xp)).setCell ⟨g,2,none⟩ (.int .i64 xl)) lab2 (Obj.cells #[i64 xt,Value.string xv,i64 xl,i64 xp] 98) 7;rwa [hsz] at this
 have mabc:=(ma.trans mb (fun _ h=>h)).trans mc (fun _ h=>h.elim);have hlb:(lab2.ext w2.heap.size 7) b=20 + cs.length:=by rw [Lab.ext_lt hmp2.1.lt];exact hmp2.2
 have md:=Mv.grown (M:=(·=20 + cs.length)) hg3 (lab2.ext w2.heap.size 7) (20 + cs.length) (fun x hx=>by cases hx;exact hlb);have htk3:Cl 11 lab2 ((w2.setCell ⟨g,3,none⟩ (.int .i64 xp)).setCell ⟨g,2,none⟩ (.int .i64 xl)) g (tkC c0 c1 xp u (xl,false)) 115:=(htk2.set 3 (i64 xp)).set 2 (i64 xl);have htk4:=(htk3.mv mc (fun h=>h)).mv md (by omega);have me:∀ lab3:Lab,lab3 g=11→Mv (·=11) w3 lab3 w3 (fun k=>if k=g then tauP cs.length else lab3 k):=fun lab3 hl=>⟨rfl,rfl,rfl,Nat.le_refl _,fun _ _ _=>rfl,fun k _ hn=>if_neg (fun e=>hn (by rw [e];exact hl))⟩
 have me:=me _ htk4.2;have hτ:tauP cs.length=9 ∨ tauP cs.length=6:=tauP_ok _;have hJ4:isV _ w3 j u:=isV.mv me (by decide) _ _ (isV.mv md (by omega) _ _ (isV.mv mabc (by decide) _ _ HJ2.out));have hbg:b ≠ g:=hne
 have hmp4:=put_mpv (ℓ:=20 + cs.length) s ((((xl,false),j),.iface 113 (.pointer (some ⟨g,0,none⟩))):TI × Value) z HD.out hown3 (lab:=fun k=>if k=g then tauP cs.length else ((lab2.ext w2.heap.size 7).ext (((w2.setCell ⟨g,3,none⟩ (.int .i64 xp)).setCell ⟨g,2,none⟩ (.int .i64 xl)).alloc (Obj.cells #[i64 xt,Value.string xv,i64 xl,i64 xp] 98)).heap.size (20 + cs.length)) k) (by
  show (if b=g then _ else _)=_
  rw [if_neg hbg,Lab.ext_lt (by rw [World.size_alloc,hsz];have:=hmp2.1.lt;omega)]
  exact hlb)
 have mm:=((M12.trans (mabc.mono (M':=PM) (by rintro x rfl;decide)) (fun _ h=>h)).trans md (by rintro x rfl;exact ⟨by omega,by omega,by omega⟩)).trans me (by rintro x rfl;decide);have key:∃ lab',QAt B lab' w3 K { X with cx:=.map (putL s ((xl,false),j) m) :: cs,ks:=st,ls:=lst }∧Mv PM w lab w3 lab':=by
  refine ⟨_,⟨.iface 61 (.map (some b)),cv,kv1,v2,.iface 61 (.map (some b)) :: vs',?_⟩,mm⟩;have tr:∀ {P:Prop},P→P:=fun h=>h
  exact {
   ped:=HTR.out.2.2
   cl:=((HCL.out.mv mabc (by decide)).mv md (by omega)).mv me (by decide)
   lx:=((HREST.out.1.mv mabc (by decide)).mv md (by omega)).mv me (by decide)
   cv:=((HREST.out.2.1.mv mabc (by decide)).mv md (by omega)).mv me (by decide)
   kv:=((HREST.out.2.2.mv mabc (by decide)).mv md (by omega)).mv me (by decide)
   iv:=⟨its',HI1.out,((HROW.out.mv mabc (by decide)).mv md (by omega)).mv me (by decide)⟩
   cs:=by
    refine ⟨⟨b,putL s (((xl,false),j),.iface 113 (.pointer (some ⟨g,0,none⟩))) z,rfl,hmp4,?_,?_,?_⟩,((HCS.out.mv mabc (by decide) (by decide) (fun i hi=>by omega)).mv md (by omega) (by omega) (fun i hi=>by omega)).mv me (by decide) (by decide) (fun i hi=>by omega)⟩
    ·rw [← HZ.out];exact putL_map (fun p:TI × Value=>p.1) s _ z
    ·intro x hx;rcases mem_putL hx with rfl | hx
     ·exact ⟨g,c0,c1,xp,u,rfl,⟨htk4.1,if_pos rfl⟩,hJ4⟩
     ·exact (((HTOK.out x hx).mv mabc (by unfold tauP;split <;> decide) (by decide)).mv md (by unfold tauP;split <;> omega) (by omega)).mv me (by unfold tauP;split <;> decide) (by decide)
    ·refine nodup_put (fun p:TI × Value=>p.2) s _ HND.out fun p hp=>?_
     exact (HTOK.out p hp).ne (by rw [htk2.2];unfold tauP;split <;> decide)
   top:=.inl rfl
   root:=HTR.out.2.1 }
 have HKEY:=Lib.hid key;clear key mm hmp4 hJ4 me htk4 htk3 md hlb mabc mc mb ma hown3 hg3 hmo hmp2 htk2 q2 q3 f2 f3 M12;go_wp2;go_end0;obtain ⟨lab',h1,h2⟩:=HKEY.out;exact ⟨rfl,lab',h1,h2⟩
end
end Go.Cf
namespace Go.Cf
open Go.RowKit Go.Conc Go.Proofs
attribute [local go_sem ↓] ta_61_75 ta_75_75 ta_61_61 ta_75_61 ta_113_113
section
variable {B:Nat} {lab lab1:Lab} {w w1:World} {K:PK} {X X':PQ} {M:Nat→Prop}
set_option maxRecDepth 100000 in
set_option maxHeartbeats 1000000 in
theorem setValueQ_arr (l:Nat) (cs:List CQ) (h:QAt B lab w K X) (hB:B≤w.heap.size) (hcx:X.cx=.arr l :: cs) (hlen:cs.length≤1000000) (hm:l≤1000000) (g0:Nat) :
  Calls Tryz.prog 63 #[.pointer (some ⟨K.p,0,none⟩),.iface 113 (.pointer (some ⟨g0,0,none⟩))] w fun e w'=>e=.returned (.tuple #[])∧∃ lab',QAt B lab' w' K { X with cx:=.arr (l + 1) :: cs }∧Mv PM w lab w' lab':=by
 obtain ⟨top,cv,kv,iv,vs,h⟩:=h;obtain ⟨v,vs',rfl,hc,hcs⟩:=CsAtQ.form (hcx ▸ h.cs);obtain ⟨s,xs,rfl,hr⟩:=hc;have htop:top=.iface 75 s:=by have:=h.top;simp at this;exact this.symm
 subst htop;have hvl:vs'.length=cs.length:=hcs.length;have c2:w.cell? ⟨K.p,2,none⟩=some (.iface 75 s):=h.cl.cell 2;have hown:=hr.1;go_enter Tryz.func63,Tryz.ntmps63;go_wp2_with (at_builtin;refine app_one B rfl _ _ 75 20 .nilIface 1 16 rfl Tryz.underlying75 info20 rfl (by decide) (by decide) s l xs [.iface 113 (.pointer (some ⟨g0,0,none⟩))] rfl rfl rfl (by simp;rfl) hown hB (by omega) ?_);intro v1 w1 hown1 hg1 hat1;have m1:Mv (·=20 + cs.length) w lab w1 (lab.ext w.heap.size (20 + cs.length)):=Mv.grown hg1 lab _ (fun k hk=>hr.2 k hk);have hcl:=h.cl.mv m1 (by omega);obtain ⟨g,cap,e7,_,_⟩:=hown1.form (by omega);subst e7;have hrw:=hr.appended hown1 hg1 hat1;have hcv:=h.cv.mv m1 (by omega);simp only [List.length_cons,List.reverse_cons] at hcv;obtain ⟨g3,cap3,rfl,hcap3,hmx3,hcell3,cur3,hgb3⟩:=own_open hcv.1 (by omega);have hl1:=hcell3 vs'.length (.iface 75 s) (by simp);have c2':w1.cell? ⟨K.p,2,none⟩=some (.iface 75 s):=hcl.cell 2;have f2':w1.frozen? ⟨K.p,2,none⟩=false:=hcl.free 2;have c3':w1.cell? ⟨K.p,3,none⟩=some (.slice (some ⟨g3,0,none⟩) (vs'.length + 1) cap3):=hcl.cell 3;have fg3:w1.frozen? ⟨g3,vs'.length,none⟩=false:=blk_free hgb3 _;have hne:g3 ≠ K.p:=(hcl.ne (hcv.2 g3 rfl) (by decide)).symm;have hne2:K.p ≠ g3:=fun e=>hne e.symm
 have m2:Mv (·=2) w1 (lab.ext w.heap.size (20 + cs.length)) (w1.setCell ⟨K.p,2,none⟩ (.iface 75 (.slice (some ⟨g,0,none⟩) (l + 1) cap))) (lab.ext w.heap.size (20 + cs.length)):=Mv.setCell _ _ _ _ hcl.2;have hcv2:=hcv.mv m2 (by decide);have m3:Mv (·=3) (w1.setCell ⟨K.p,2,none⟩ (.iface 75 (.slice (some ⟨g,0,none⟩) (l + 1) cap))) (lab.ext w.heap.size (20 + cs.length)) ((w1.setCell ⟨K.p,2,none⟩ (.iface 75 (.slice (some ⟨g,0,none⟩) (l + 1) cap))).setCell ⟨g3,vs'.length,none⟩ (.iface 75 (.slice (some ⟨g,0,none⟩) (l + 1) cap))) (lab.ext w.heap.size (20 + cs.length)):=Mv.setCell _ _ _ _ (hcv2.2 g3 rfl);have hcv3:=Rw.setLast (y:=.iface 75 (.slice (some ⟨g,0,none⟩) (l + 1) cap)) hcv2;rw [List.length_reverse] at hcv3;have hroot2:∀ v,(Value.iface 75 (.slice (some ⟨g,0,none⟩) (l + 1) cap) :: vs').getLast?=some v→v=.iface 61 (.map (some K.mp)):=by
  intro v hv
  cases vs' with
  | nil=>have:=h.root (.iface 75 s) (by simp);injection this with h1;cases h1
  | cons x xs=>exact h.root v (by simpa using hv)
 have key:QAt B (lab.ext w.heap.size (20 + cs.length)) ((w1.setCell ⟨K.p,2,none⟩ (.iface 75 (.slice (some ⟨g,0,none⟩) (l + 1) cap))).setCell ⟨g3,vs'.length,none⟩ (.iface 75 (.slice (some ⟨g,0,none⟩) (l + 1) cap))) K { X with cx:=.arr (l + 1) :: cs }:=by
  refine ⟨.iface 75 (.slice (some ⟨g,0,none⟩) (l + 1) cap),.slice (some ⟨g3,0,none⟩) (vs'.length + 1) cap3,kv,iv,.iface 75 (.slice (some ⟨g,0,none⟩) (l + 1) cap) :: vs',?_⟩
  exact {
   ped:=h.ped
   cl:=(hcl.set 2 _).mv m3 (by decide)
   lx:=((h.lx.mv m1 (by omega)).mv m2 (by decide)).mv m3 (by decide)
   cv:=by simpa using hcv3
   kv:=((h.kv.mv m1 (by omega)).mv m2 (by decide)).mv m3 (by decide)
   iv:=((h.iv.mv m1 (by omega)).mv m2 (by decide)).mv m3 (by decide)
   cs:=by
    refine ⟨⟨_,xs ++ [.iface 113 (.pointer (some ⟨g0,0,none⟩))],rfl,?_⟩,((hcs.mv m1 (by omega) (by omega) (fun i hi=>by omega)).mv m2 (by decide) (by decide) (fun i hi=>by omega)).mv m3 (by decide) (by decide) (fun i hi=>by omega)⟩;simpa using (hrw.mv m2 (by omega)).mv m3 (by omega)
   top:=.inl rfl
   root:=hroot2 }
 have mm:Mv PM w lab ((w1.setCell ⟨K.p,2,none⟩ (.iface 75 (.slice (some ⟨g,0,none⟩) (l + 1) cap))).setCell ⟨g3,vs'.length,none⟩ (.iface 75 (.slice (some ⟨g,0,none⟩) (l + 1) cap))) (lab.ext w.heap.size (20 + cs.length)) :=
  ((m1.mono (M':=PM) (by rintro x rfl;simp [PM];omega)).trans m2 (by rintro x rfl;decide)).trans m3 (by rintro x rfl;decide)
 have hw:IntKind.wrap .i64 ((vs'.length:Nat):Int)=((vs'.length:Nat):Int):=by
  simp [IntKind.wrap,IntKind.bits,IntKind.signed];omega
 have i0:(0:Int)≤((vs'.length:Nat):Int):=by omega
 have i1:((vs'.length:Nat):Int) < ((vs'.length:Nat):Int) + 1:=by omega
 have i2:((vs'.length:Nat):Int) < ((vs'.length + 1:Nat):Int):=by omega
 have HK:=Lib.hid hcx;have HV:=Lib.hid hvl;clear hroot2 hcx hvl hcv3 hcv2 m3 m2 m1 hrw hown1 hg1 hat1 hcl h hr hcv hcell3 hgb3 hown hcs c2;go_wp2;refine wp_still_tail 15 mixed (by kernel_rfl) ?_;simp only [List.take_succ_cons,List.take_zero,List.drop_succ_cons,List.drop_zero]
 repeat still_step
 refine wpStill_nil ?_;go_wp2;go_end0;exact ⟨rfl,_,key.mv (Mv.aDraw (fun _=>False) _ _) (fun _ _ h=>h),mm.trans (Mv.aDraw (fun _=>False) _ _) (fun _ h=>h.elim)⟩
inductive PQ.Sets (X:PQ) (j:TV):PQ→Prop
 | map (m:List (ByteArray × TI)) (cs:List CQ) (st:List ByteArray) (s:ByteArray) (lst:List Int) (ln:Int) (hcx:X.cx=.map m :: cs) (hks:X.ks=st ++ [s]) (hls:X.ls=lst ++ [ln]) (h1:st.length≤1000000) (h2:m.length≤1000000) (h3:s.size≤1000000) (h4:lst.length≤1000000) :
   Sets X j { X with cx:=.map (putL s ((ln,false),j) m) :: cs,ks:=st,ls:=lst }
 | arr (l:Nat) (cs:List CQ) (hcx:X.cx=.arr l :: cs) (h1:cs.length≤1000000) (h2:l≤1000000):Sets X j { X with cx:=.arr (l + 1) :: cs }
theorem setTokQ (h:QAt B lab w K X) (hB:B≤w.heap.size) {j:TV} (hs:X.Sets j X') (g:Nat) (c0 c1:Value) (l0 p0:Int) (u:Value) (htk:Cl 11 lab w g (tkC c0 c1 p0 u (l0,false)) 115) (hj:isV lab w j u) :
  Calls Tryz.prog 63 #[.pointer (some ⟨K.p,0,none⟩),.iface 113 (.pointer (some ⟨g,0,none⟩))] w fun e w'=>e=.returned (.tuple #[])∧∃ lab',QAt B lab' w' K X'∧Mv PM w lab w' lab':=by
 cases hs with
 | map m cs st s lst ln hcx hks hls h1 h2 h3 h4=>exact setValueQ_map m cs st s lst ln h hcx hks hls h1 h4 h2 h3 g c0 c1 l0 p0 j u htk hj
 | arr l cs hcx h1 h2=>exact setValueQ_arr l cs h hB hcx h1 h2 g
set_option maxRecDepth 100000 in
set_option maxHeartbeats 1000000 in
theorem layQ (h:QAt B lab w K X) (hB:B≤w.heap.size) {j:TV} (hs:X.Sets j X') (xt:Nat) (xv:ByteArray) (xl xp:Int) (t:TypeId) (u:Value) (hj:isV lab w j (.iface t u)) (gp gf:Nat) (hgp:Cl 7 lab w gp #[.pointer (some ⟨K.p,0,none⟩)] 71) (hgf:Cl 7 lab w gf #[.string { data:=#[] }] 9) :
  Calls Tryz.prog 62 #[.agg #[i64 xt,.string xv,i64 xl,i64 xp],.iface t u,.pointer (some ⟨gp,0,none⟩),.pointer (some ⟨gf,0,none⟩)] w fun e w'=>e=.returned (.tuple #[])∧∃ lab',QAt B lab' w' K X'∧Mv PM w lab w' lab':=by
 have d0:w.cell? ⟨gp,0,none⟩=some (.pointer (some ⟨K.p,0,none⟩)):=hgp.cell 0;have d1:w.cell? ⟨gf,0,none⟩=some (.string { data:=#[] }):=hgf.cell 0;have c7:=h.ped;have e0:∀ o,(w.alloc o).cell? ⟨gp,0,none⟩=some (.pointer (some ⟨K.p,0,none⟩)):=fun o=>(World.cell?_alloc_lt w o _ (World.block_lt_of_cell? w _ d0)).trans d0
 have e1:∀ o,(w.alloc o).cell? ⟨gf,0,none⟩=some (.string { data:=#[] }):=fun o=>(World.cell?_alloc_lt w o _ (World.block_lt_of_cell? w _ d1)).trans d1
 have e7:∀ o,(w.alloc o).cell? ⟨K.p,7,none⟩=some (.bool true):=fun o=>(World.cell?_alloc_lt w o _ (World.block_lt_of_cell? w _ c7)).trans c7
 have HM:∀ o o',Mv (fun _=>False) w lab ((w.alloc o).alloc o') ((lab.ext w.heap.size 7).ext (w.heap.size + 1) 11):=fun o o'=>by
  have:=(Mv.alloc (M:=fun _=>False) w lab o 7).trans (Mv.alloc (M:=fun _=>False) (w.alloc o) (lab.ext w.heap.size 7) o' 11) (fun _ h=>h);rwa [World.size_alloc] at this
 have HB:∀ o,Cl 11 ((lab.ext w.heap.size 7).ext (w.heap.size + 1) 11) ((w.alloc o).alloc (.cells (tkC (i64 xt) (.string xv) xp (.iface t u) (xl,false)) 115)) (w.heap.size + 1) (tkC (i64 xt) (.string xv) xp (.iface t u) (xl,false)) 115:=fun o =>
  ⟨by rw [← World.size_alloc w o];exact heap_alloc_new _ _,Lab.ext_ge (Nat.le_refl _)⟩
 have H63:=fun o o'=>setTokQ (h.mv (HM o o') (fun _ _ h=>h)) (Nat.le_trans hB (HM o o').size) hs (w.heap.size + 1) (i64 xt) (.string xv) xl xp (.iface t u)
 have HV:=fun o o'=>isV.mv (HM o o') (fun h=>h) _ _ hj
 have H1:=Lib.hid HM;have H2:=Lib.hid HB;have H3:=Lib.hid H63;have H4:=Lib.hid HV;clear HM HB H63 HV h hj;go_enter Tryz.func62,Tryz.ntmps62;go_wp2_with fail;refine (H3.out _ _ (H2.out _) (H4.out _ _)).mono ?_;rintro e w6 ⟨rfl,lab6,h6,m6⟩;have HF:=Lib.hid (((H1.out _ _).mono (M':=PM) (fun _ h=>h.elim)).trans m6 (fun _ h=>h));clear m6;go_wp2;go_end0;exact ⟨rfl,lab6,h6,HF.out⟩
structure BxQ (B:Nat) (lab:Lab) (w:World) (K:PK) (X:PQ) (n xt:Nat) (xv:ByteArray) (xl xp:Int):Prop where
 pat:QAt B lab w K X
 hB:B≤w.heap.size
 b0:Cl 7 lab w n #[.pointer (some ⟨K.p,0,none⟩)] 71
 b1:Cl 7 lab w (n + 1) #[i64 xt,.string xv,i64 xl,i64 xp] 98
 b2:Cl 7 lab w (n + 1 + 1) #[.string { data:=#[] }] 9
theorem QAt.boxed (h:QAt B lab w K X) (hB:B≤w.heap.size) (xt:Nat) (xv:ByteArray) (xl xp:Int):∃ lab1,BxQ B lab1 (Boxed w K xt xv xl xp) K X w.heap.size xt xv xl xp∧Mv PM w lab (Boxed w K xt xv xl xp) lab1:=by
 obtain ⟨w1,hw1⟩:∃ w1,w1=w.alloc (Obj.cells #[Value.pointer (some ⟨K.p,0,none⟩)] 71):=⟨_,rfl⟩;obtain ⟨w2,hw2⟩:∃ w2,w2=w1.alloc (Obj.cells #[i64 xt,.string xv,i64 xl,i64 xp] 98):=⟨_,rfl⟩;obtain ⟨w3,hw3⟩:∃ w3,w3=w2.alloc (Obj.cells #[.string { data:=#[] }] 9):=⟨_,rfl⟩;have e:Boxed w K xt xv xl xp=w3:=by subst hw1 hw2 hw3;rfl
 have s1:w1.heap.size=w.heap.size + 1:=by rw [hw1,World.size_alloc]
 have s2:w2.heap.size=w.heap.size + 1 + 1:=by rw [hw2,World.size_alloc,s1]
 have s3:w3.heap.size=w.heap.size + 1 + 1 + 1:=by rw [hw3,World.size_alloc,s2]
 have m1:Mv (fun _=>False) w lab w1 (lab.ext w.heap.size 7):=hw1 ▸ Mv.alloc _ _ _ _;have m2:Mv (fun _=>False) w1 (lab.ext w.heap.size 7) w2 ((lab.ext w.heap.size 7).ext w1.heap.size 7):=hw2 ▸ Mv.alloc _ _ _ _;have m3:Mv (fun _=>False) w2 ((lab.ext w.heap.size 7).ext w1.heap.size 7) w3 (((lab.ext w.heap.size 7).ext w1.heap.size 7).ext w2.heap.size 7):=hw3 ▸ Mv.alloc _ _ _ _;have c1:Cl 7 (lab.ext w.heap.size 7) w1 w.heap.size #[.pointer (some ⟨K.p,0,none⟩)] 71:=hw1 ▸ Cl.alloc _ _ _ _ _;have c2:Cl 7 ((lab.ext w.heap.size 7).ext w1.heap.size 7) w2 w1.heap.size #[i64 xt,.string xv,i64 xl,i64 xp] 98:=hw2 ▸ Cl.alloc _ _ _ _ _;have c3:Cl 7 (((lab.ext w.heap.size 7).ext w1.heap.size 7).ext w2.heap.size 7) w3 w2.heap.size #[.string { data:=#[] }] 9:=hw3 ▸ Cl.alloc _ _ _ _ _;rw [e];refine ⟨_,⟨((h.mv m1 (fun _ _ h=>h)).mv m2 (fun _ _ h=>h)).mv m3 (fun _ _ h=>h),by omega,(c1.mv m2 (fun h=>h)).mv m3 (fun h=>h),?_,?_⟩,((m1.mono (fun _ h=>h.elim)).trans m2 (fun _ h=>h.elim)).trans m3 (fun _ h=>h.elim)⟩
 ·rw [← s1];exact c2.mv m3 (fun h=>h)
 ·rw [← s2];exact c3
theorem BxQ.mv {n xt:Nat} {xv:ByteArray} {xl xp:Int} (h:BxQ B lab w K X n xt xv xl xp) (hp:QAt B lab1 w1 K X') (m:Mv PM w lab w1 lab1):BxQ B lab1 w1 K X' n xt xv xl xp :=
 ⟨hp,Nat.le_trans h.hB m.size,h.b0.mv m (by simp [PM]),h.b1.mv m (by simp [PM]),h.b2.mv m (by simp [PM])⟩
set_option maxRecDepth 100000 in
set_option maxHeartbeats 4000000 in
theorem itemQ_key (h:QAt B lab w K X) (hB:B≤w.heap.size) (hlen:X.ks.length≤1000000) (hll:X.ls.length≤1000000) (xv:ByteArray) (xl xp:Int) :
  Calls Tryz.prog 57 #[.pointer (some ⟨K.p,0,none⟩),.agg #[i64 3,.string xv,i64 xl,i64 xp],.string { data:=#[] }] w fun e w'=>e=.returned .nilIface∧∃ lab',QAt B lab' w' K { X with ks:=X.ks ++ [xv],ls:=X.ls ++ [xl] }∧Mv PM w lab w' lab':=by
 obtain ⟨lab1,hb,m1⟩:=h.boxed hB 3 xv xl xp;go_enter Tryz.func57,Tryz.ntmps57;go_wp2_with fail;refine (pushKeyQ hb.pat hb.hB hlen xv).mono ?_;rintro e w2 ⟨rfl,lab2,h2,m2⟩;have hb2:=hb.mv h2 m2;have d0:=hb2.b0.cell 0;have e0:=hb2.b1.cell 0;have e1:=hb2.b1.cell 1;have e2:=hb2.b1.cell 2;have e3:=hb2.b1.cell 3;have c7:=h2.ped;simp at d0 e0 e1 e2 e3;obtain ⟨top,cv,kv,iv,vs,hx⟩:=h2;obtain ⟨its,hits,hrow⟩:=hx.iv;have hil:its.length≤1000000:=by have:=congrArg List.length hits;simp only [List.length_map] at this;rw [this];exact hll
 have m12:=m1.trans m2 (fun _ h=>h);have HX:=Lib.hid (aI hx (aI hits m12));have hcl:=hx.cl;have hB2:=hb2.hB;clear h hb hb2 hx m12 m1 m2 hits;go_wp2_with fail;refine (pushItemQ (K:={ K with iv:=iv }) (flatI its) hcl hrow hil hB2 3 xv xl xp).mono ?_;rintro e w3 ⟨rfl,lab3,v1,hcl3,hrow3,m3⟩;have hx:=HX.out.1;have key:QAt B lab3 w3 K { X with ks:=X.ks ++ [xv],ls:=X.ls ++ [xl] }:=by
  refine ⟨top,cv,kv,v1,vs,hx.ped,hcl3,hx.lx.mv m3 (by decide),hx.cv.mv m3 (by decide),hx.kv.mv m3 (by decide),⟨its ++ [⟨3,xv,xl,xp⟩],?_,?_⟩,hx.cs.mv m3 (by decide) (by decide) (fun i _=>by omega),hx.top,hx.root⟩
  ·rw [List.map_append,HX.out.2.1];rfl
  ·rw [flatI_app,List.length_append];exact hrow3
 have HK:=Lib.hid (aI key (HX.out.2.2.trans m3 (by rintro x (rfl | rfl) <;> decide)));clear key hcl3 hrow3 m3 hx hcl hrow;go_wp2;go_ret;exact ⟨rfl,lab3,HK.out.1,HK.out.2⟩
end
end Go.Cf
namespace Go.Cf
open Go.RowKit Go.Conc Go.Proofs
attribute [local go_sem ↓] mk75z mk61
section
variable {B:Nat} {lab lab1:Lab} {w w1:World} {K:PK} {X X':PQ} {M:Nat→Prop} {L:LX} {c2:CQ} {cs:List CQ} {ks:List ByteArray} {ls:List Int}
theorem leafQ {t:TypeId} (u:Value) (h:t=2 ∨ t=22 ∨ t=4 ∨ t=9 ∨ t=75):isV lab w .leaf (.iface t u):=by
 simp only [isV];exact ⟨t,u,rfl,h⟩
set_option maxRecDepth 100000 in
set_option maxHeartbeats 1000000 in
theorem itemQ_str (h:QAt B lab w K X) (hB:B≤w.heap.size) (xv:ByteArray) (xl xp:Int) (hs:X.Sets .leaf X') :
  Calls Tryz.prog 57 #[.pointer (some ⟨K.p,0,none⟩),.agg #[i64 (5:Nat),.string xv,i64 xl,i64 xp],.string { data:=#[] }] w fun e w'=>e=.returned .nilIface∧∃ lab',QAt B lab' w' K X'∧Mv PM w lab w' lab':=by
 obtain ⟨lab1,hb,m1⟩:=h.boxed hB 5 xv xl xp;have HC:=Lib.hid (layQ hb.pat hb.hB hs 5 xv xl xp 9 (.string xv) (leafQ _ (by decide)) _ (w.heap.size + 1 + 1) hb.b0 hb.b2);clear hb;go_enter Tryz.func57,Tryz.ntmps57;go_wp2_with fail;refine HC.out.mono ?_;rintro e w6 ⟨rfl,lab6,h6,m6⟩;go_wp2;go_ret;exact ⟨rfl,lab6,h6,m1.trans m6 (fun _ h=>h)⟩
set_option maxRecDepth 100000 in
set_option maxHeartbeats 1000000 in
theorem itemQ_cmt14 (h:QAt B lab w K X) (hB:B≤w.heap.size) (xv:ByteArray) (xl xp:Int) :
  Calls Tryz.prog 57 #[.pointer (some ⟨K.p,0,none⟩),.agg #[i64 (14:Nat),.string xv,i64 xl,i64 xp],.string { data:=#[] }] w fun e w'=>e=.returned .nilIface∧∃ lab',QAt B lab' w' K X∧Mv PM w lab w' lab':=by
 obtain ⟨lab1,hb,m1⟩:=h.boxed hB 14 xv xl xp;have HB:=Lib.hid hb.pat;clear hb;go_enter Tryz.func57,Tryz.ntmps57;go_wp2;go_ret;exact ⟨rfl,lab1,HB.out,m1⟩
set_option maxRecDepth 100000 in
set_option maxHeartbeats 1000000 in
theorem itemQ_cmt4 (h:QAt B lab w K X) (hB:B≤w.heap.size) (xv:ByteArray) (xl xp:Int) :
  Calls Tryz.prog 57 #[.pointer (some ⟨K.p,0,none⟩),.agg #[i64 (4:Nat),.string xv,i64 xl,i64 xp],.string { data:=#[] }] w fun e w'=>e=.returned .nilIface∧∃ lab',QAt B lab' w' K X∧Mv PM w lab w' lab':=by
 obtain ⟨lab1,hb,m1⟩:=h.boxed hB 4 xv xl xp;have HB:=Lib.hid hb.pat;clear hb;go_enter Tryz.func57,Tryz.ntmps57;go_wp2;go_ret;exact ⟨rfl,lab1,HB.out,m1⟩
set_option maxRecDepth 100000 in
set_option maxHeartbeats 1000000 in
theorem itemQ_list (h:QAt B lab w K X) (hB:B≤w.heap.size) (hl:X.cx.length≤1000000) (hne:X.cx ≠ []) (xv:ByteArray) (xl xp:Int) :
  Calls Tryz.prog 57 #[.pointer (some ⟨K.p,0,none⟩),.agg #[i64 (10:Nat),.string xv,i64 xl,i64 xp],.string { data:=#[] }] w fun e w'=>e=.returned .nilIface∧∃ lab',QAt B lab' w' K { X with cx:=.arr 0 :: X.cx }∧Mv PM w lab w' lab':=by
 obtain ⟨lab1,hb,m1⟩:=h.boxed hB 10 xv xl xp;have m2:Mv (fun _=>False) (Boxed w K 10 xv xl xp) lab1 ((Boxed w K 10 xv xl xp).alloc (.cells #[] 20)) (lab1.ext (Boxed w K 10 xv xl xp).heap.size (20 + X.cx.length)):=Mv.alloc _ _ _ _;have hrw:=row_new (B:=B) (Boxed w K 10 xv xl xp) lab1 (20 + X.cx.length) 20 1 0 #[] hb.hB (by unfold maxLen;omega) rfl;have hp2:=hb.pat.mv m2 (fun _ _ h=>h);have HC:=pushContextQ hp2 (Nat.le_trans hb.hB m2.size) hl (.arr 0) 75 _ ⟨_,[],rfl,hrw⟩ (fun e=>absurd e hne);have m12:=m1.trans m2 (fun _ h=>h.elim);have hWs:(Boxed w K 10 xv xl xp).heap.size=w.heap.size + 1 + 1 + 1:=by unfold Boxed;simp [World.size_alloc]
 rw [hWs] at HC m12;have HCH:=Lib.hid HC;have HB:=Lib.hid hb;clear m2 hrw hp2 m1 HC hb hWs;go_enter Tryz.func57,Tryz.ntmps57;go_wp2_with fail;refine HCH.out.mono ?_;rintro e w6 ⟨rfl,lab6,h6,m6⟩;go_wp2;go_ret;exact ⟨rfl,lab6,h6,m12.trans m6 (fun _ h=>h)⟩
set_option maxRecDepth 100000 in
set_option maxHeartbeats 1000000 in
theorem itemQ_map (h:QAt B lab w K X) (hB:B≤w.heap.size) (hl:X.cx.length≤1000000) (hne:X.cx ≠ []) (xv:ByteArray) (xl xp:Int) :
  Calls Tryz.prog 57 #[.pointer (some ⟨K.p,0,none⟩),.agg #[i64 (12:Nat),.string xv,i64 xl,i64 xp],.string { data:=#[] }] w fun e w'=>e=.returned .nilIface∧∃ lab',QAt B lab' w' K { X with cx:=.map [] :: X.cx }∧Mv PM w lab w' lab':=by
 obtain ⟨lab1,hb,m1⟩:=h.boxed hB 12 xv xl xp;have m2:Mv (fun _=>False) (Boxed w K 12 xv xl xp) lab1 ((Boxed w K 12 xv xl xp).alloc (.map #[] 0)) (lab1.ext (Boxed w K 12 xv xl xp).heap.size (20 + X.cx.length)):=Mv.alloc _ _ _ _;have hrw:=map_new (Boxed w K 12 xv xl xp) lab1 (20 + X.cx.length);have hp2:=hb.pat.mv m2 (fun _ _ h=>h);have HC:=pushContextQ hp2 (Nat.le_trans hb.hB m2.size) hl (.map []) 61 _ ⟨_,[],rfl,hrw,rfl,(fun x hx=>by cases hx),List.nodup_nil⟩ (fun e=>absurd e hne);have m12:=m1.trans m2 (fun _ h=>h.elim);have hWs:(Boxed w K 12 xv xl xp).heap.size=w.heap.size + 1 + 1 + 1:=by unfold Boxed;simp [World.size_alloc]
 rw [hWs] at HC m12;have HCH:=Lib.hid HC;have HB:=Lib.hid hb;clear m2 hrw hp2 m1 HC hb hWs;go_enter Tryz.func57,Tryz.ntmps57;go_wp2_with fail;refine HCH.out.mono ?_;rintro e w6 ⟨rfl,lab6,h6,m6⟩;go_wp2;go_ret;exact ⟨rfl,lab6,h6,m12.trans m6 (fun _ h=>h)⟩
def CQ.tv:CQ→TV
 | .map m=>.map (m.map (·.1)) (m.map (·.2.1)) (m.map (·.2.2))
 | .arr _=>.leaf
theorem isTs_of {lab:Lab} {w:World}:∀ {z:List (ByteArray × TI × Value)},(∀ x ∈ z,Tok 6 lab w x.2.1 x.2.2)→isTs lab w (z.map fun x=>x.2.1.1) (z.map fun x=>x.2.1.2) (z.map fun x=>x.2.2)
 | [],_=>by simp only [List.map_nil,isTs]
 | x :: z,h=>by
  simp only [List.map_cons,isTs];exact ⟨h x (List.mem_cons_self ..),isTs_of fun y hy=>h y (List.mem_cons_of_mem _ hy)⟩
theorem CAtQ.close {ℓ:Nat} {c:CQ} {v:Value} (h:CAtQ B ℓ 6 lab w c v) (h6:ℓ ≠ 6):isV (fun k=>if lab k=ℓ then 6 else lab k) w c.tv v:=by
 have m:Mv (fun x=>x=ℓ) w lab w (fun k=>if lab k=ℓ then 6 else lab k):=⟨rfl,rfl,rfl,Nat.le_refl _,fun _ _ _=>rfl,fun k _ hn=>if_neg hn⟩;have hm6:¬ (fun x=>x=ℓ) 6:=fun e=>h6 e.symm
 cases c with
 | map l =>
  obtain ⟨b,z,rfl,hp,hz,ht,_⟩:=h;subst hz;simp only [CQ.tv,isV,List.map_map];refine ⟨b,z.map fun x=>(x.1,x.2.2),rfl,⟨hp.1,if_pos hp.2⟩,?_,?_⟩
  ·rw [List.map_map];rfl
  ·have:=isTs_of (lab:=fun k=>if lab k=ℓ then 6 else lab k) (w:=w) (z:=z) fun x hx=>(ht x hx).mv m hm6 hm6
   rw [List.map_map];exact this
 | arr l =>
  obtain ⟨s,xs,rfl,hr⟩:=h;simp only [CQ.tv,isV];exact ⟨75,s,rfl,by decide⟩
theorem QAt.relab (h:QAt B lab w K X) (ℓ:Nat) (hℓ:20 + X.cx.length≤ℓ):QAt B (fun k=>if lab k=ℓ then 6 else lab k) w K X∧Mv PM w lab w (fun k=>if lab k=ℓ then 6 else lab k):=by
 have m:Mv (fun x=>x=ℓ) w lab w (fun k=>if lab k=ℓ then 6 else lab k):=⟨rfl,rfl,rfl,Nat.le_refl _,fun _ _ _=>rfl,fun k _ hn=>if_neg hn⟩;obtain ⟨top,cv,kv,iv,vs,h⟩:=h;refine ⟨⟨top,cv,kv,iv,vs,h.ped,h.cl.mv m (by omega),h.lx.mv m (by omega),h.cv.mv m (by omega),h.kv.mv m (by omega),h.iv.mv m (by omega),h.cs.mv m (by omega) (by omega) (fun i hi=>by omega),h.top,h.root⟩,m.mono (fun x hx=>by subst hx;exact ⟨by omega,by omega,by omega⟩)⟩
end
end Go.Cf
namespace Go.Cf
open Go.RowKit Go.Conc Go.Proofs
section
variable {B:Nat} {lab lab1:Lab} {w w1:World} {K:PK} {X X':PQ}
theorem QAtX.withLx {top cv kv iv:Value} {vs:List Value} {L':LX} (h:QAtX B lab w K X top cv kv iv vs) (hl:Lx B lab1 w1 K.b L') (m:Mv (·=1) w lab w1 lab1):QAt B lab1 w1 K { X with L:=L' } :=
 ⟨top,cv,kv,iv,vs,h.ped,h.cl.mv m (by decide),hl,h.cv.mv m (by decide),h.kv.mv m (by decide),h.iv.mv m (by decide),h.cs.mv m (by decide) (by decide) (fun i _=>by omega),h.top,h.root⟩
set_option maxRecDepth 100000 in
set_option maxHeartbeats 1000000 in
theorem nextQ {n:Nat} {x:It} {q:List It} {L':LX} (h:QAt B lab w K X) (R:Run n X.L L') (hx:L'.q=x :: q) :
  Calls Tryz.prog 55 #[.pointer (some ⟨K.p,0,none⟩)] w fun e w'=>e=.returned x.v∧∃ lab',QAt B lab' w' K { X with L:=L'.took q }∧Mv PM w lab w' lab':=by
 have h1:=h.alloc7 Zero98;have m1:Mv (fun _=>False) w lab (w.alloc Zero98) (lab.ext w.heap.size 7):=Mv.alloc _ _ _ _;have hr:Cl 7 (lab.ext w.heap.size 7) (w.alloc Zero98) w.heap.size #[i64 0,.string { data:=#[] },i64 0,i64 0] 98:=Cl.alloc _ _ _ _ _;obtain ⟨top,cv,kv,iv,vs,hx1⟩:=h1;have c1:(w.alloc Zero98).cell? ⟨K.p,1,none⟩=some (.pointer (some ⟨K.b,0,none⟩)):=hx1.cl.cell 1;have HC:=nextItem_c R hx hx1.lx.at;obtain ⟨W,hW⟩:∃ W,W=w.alloc Zero98:=⟨_,rfl⟩;have hW2:w.alloc (Obj.cells #[Value.int IntKind.i64 0,Value.string { data:=#[] },Value.int IntKind.i64 0,Value.int IntKind.i64 0] 98)=W:=hW.symm;rw [← hW] at m1 hr hx1 c1 HC;clear hW h;go_enter Tryz.func55,Tryz.ntmps55;go_wp2_with fail;refine HC.mono ?_;rintro e w2 ⟨rfl,hA⟩;obtain ⟨hl,ml⟩:=Lx.back hA;have hr2:=hr.mv ml (by decide);have hp2:=hx1.withLx hl ml;have mm:=(m1.mono (M':=PM) (fun _ h=>h.elim)).trans ml (by rintro x rfl;decide);obtain ⟨xt,xv,xl,xp⟩:=x;have d0:w2.cell? ⟨w.heap.size,0,none⟩=some (.int .i64 0):=hr2.cell 0;have d1:w2.cell? ⟨w.heap.size,1,none⟩=some (.string { data:=#[] }):=hr2.cell 1;have d2:w2.cell? ⟨w.heap.size,2,none⟩=some (.int .i64 0):=hr2.cell 2;have d3:w2.cell? ⟨w.heap.size,3,none⟩=some (.int .i64 0):=hr2.cell 3;have e0:=hr2.free 0;have e1:=hr2.free 1;have e2:=hr2.free 2;have e3:=hr2.free 3;have hlab:=hr2.2;have m7:Mv (·=7) w2 ((lab.ext w.heap.size 7).ext W.heap.size 1) ((((w2.setCell ⟨w.heap.size,0,none⟩ (i64 xt)).setCell ⟨w.heap.size,1,none⟩ (.string xv)).setCell ⟨w.heap.size,2,none⟩ (i64 xl)).setCell ⟨w.heap.size,3,none⟩ (i64 xp)) ((lab.ext w.heap.size 7).ext W.heap.size 1) :=
  (((Mv.setCell _ _ _ _ hlab).trans (Mv.setCell _ _ _ _ hlab) (fun _ h=>h)).trans (Mv.setCell _ _ _ _ hlab) (fun _ h=>h)).trans (Mv.setCell _ _ _ _ hlab) (fun _ h=>h)
 have hp3:=hp2.mv m7 (fun x hx e=>hx e);have c13:=blk_setCell (blk_setCell (blk_setCell (blk_setCell hr2.1 0 (i64 xt)) 1 (.string xv)) 2 (i64 xl)) 3 (i64 xp);have HC13:=Lib.hid c13;have HX:=Lib.hid hx;have HL:=Lib.hid hlab;have HM:Mv PM w lab ((((w2.setCell ⟨w.heap.size,0,none⟩ (i64 xt)).setCell ⟨w.heap.size,1,none⟩ (.string xv)).setCell ⟨w.heap.size,2,none⟩ (i64 xl)).setCell ⟨w.heap.size,3,none⟩ (i64 xp)) ((lab.ext w.heap.size 7).ext W.heap.size 1):=by
  refine ⟨mm.os,mm.tape,mm.output,Nat.le_trans mm.size m7.size,fun k hk hn=>?_,mm.lab⟩;refine Eq.trans ?_ (mm.block k hk hn);have hne:k ≠ w.heap.size:=by omega
  rw [Below.heap_setCell _ _ _ _ hne,Below.heap_setCell _ _ _ _ hne,Below.heap_setCell _ _ _ _ hne,Below.heap_setCell _ _ _ _ hne]
 clear c13 hx hlab hr2 hr hp2 m7 hA hl ml hx1 HC;simp only [It.v];go_wp2;refine bodyPost_ret (results_cell rfl rfl HC13.out Tryz.underlying98 rfl info98) rfl ?_;exact ⟨rfl,_,hp3,HM⟩
end
def WorksQ (K:PK) (X:PQ) (x:It) (X':PQ):Prop :=
 ∀ (B:Nat) (lab:Lab) (w:World),B≤w.heap.size→QAt B lab w K X→Tb lab w →
  Calls Tryz.prog 57 #[.pointer (some ⟨K.p,0,none⟩),x.v,.string { data:=#[] }] w fun e w'=>e=.returned .nilIface∧∃ lab',QAt B lab' w' K X'∧Mv PM w lab w' lab'
inductive FeedsQ (K:PK):PQ→It→PQ→Prop
 | eof {n:Nat} {X:PQ} {L':LX} {x prev:It} {q:List It} (R:Run n X.L L') (hx:L'.q=x :: q) (ht:x.typ=2) (hp:prev.typ ≠ 3):FeedsQ K X prev { X with L:=L'.took q }
 | step {n:Nat} {X X2 X':PQ} {L':LX} {x prev:It} {q:List It} (R:Run n X.L L') (hx:L'.q=x :: q) (ht:x.typ ≠ 2) (hw:WorksQ K { X with L:=L'.took q } x X2) (h:FeedsQ K X2 x X'):FeedsQ K X prev X'
section
variable {B:Nat} {lab lab1:Lab} {w w1:World} {K:PK} {X X':PQ}
def PIQ (B:Nat) (lab0:Lab) (w0:World) (K:PK) (r:Nat) (X:PQ) (prev:It) (a:Act) (w:World):Prop :=
 (∃ t2 t3 t6 t7 t8 t9 t10 t11 t12 t13 t14 t15 t16 t17 t18 t19 t20 t21 t22 t23 t24 t25 t26 t27 t28 t29 t30 t31 t32 t33 t34 t35 t36:Value,a={ tmps:=#[.pointer (some ⟨K.p,0,none⟩),.string { data:=#[] },t2,t3,.nilIface,.pointer (some ⟨r,0,none⟩),t6,t7,t8,t9,t10,t11,t12,t13,t14,t15,t16,t17,t18,t19,t20,t21,t22,t23,t24,t25,t26,t27,t28,t29,t30,t31,t32,t33,t34,t35,t36],defers:=[] }) ∧
 ∃ lab,QAt B lab w K X∧B≤w.heap.size∧Tb lab w∧Cl 7 lab w r #[i64 prev.typ,.string prev.val,i64 prev.line,i64 prev.pos] 98∧Mv PM w0 lab0 w lab
theorem wpL_feedsQ {P:Program} {Q:Exit→Act→World→Prop} {c:Code} {I:PQ→It→Act→World→Prop} {prev:It} {a:Act} (F:FeedsQ K X prev X') (hI:I X prev a w)
  (heof:∀ (n:Nat) (X:PQ) (L':LX) (x prev:It) (q:List It) (a:Act) (w:World),Run n X.L L'→L'.q=x :: q→x.typ=2→prev.typ ≠ 3→X'={ X with L:=L'.took q }→I X prev a w→wpN P c (Exit.then (fun _ _=>False) Q) a w)
  (hstep:∀ (n:Nat) (X X2:PQ) (L':LX) (x prev:It) (q:List It) (a:Act) (w:World),Run n X.L L'→L'.q=x :: q→x.typ ≠ 2→WorksQ K { X with L:=L'.took q } x X2→I X prev a w→wpN P c (Exit.then (I X2 x) Q) a w):wpL P c Q a w:=by
 induction F generalizing a w with
 | eof R hx ht hp=>exact wpL_round (wpN_mono (heof _ _ _ _ _ _ _ _ R hx ht hp rfl hI) (fun e a w q=>by cases e <;> first | exact q | exact q.elim))
 | step R hx ht hw _ ih=>exact wpL_round (wpN_mono (hstep _ _ _ _ _ _ _ _ _ R hx ht hw hI) (fun e a w q=>by cases e <;> first | exact q | exact ih q heof))
theorem QAt.c0 (h:QAt B lab w K X):w.cell? ⟨K.p,0,none⟩=some (.map (some K.mp)):=by
 obtain ⟨top,cv,kv,iv,vs,h⟩:=h;exact h.cl.cell 0
set_option maxRecDepth 100000 in
set_option maxHeartbeats 4000000 in
theorem parse48Q {s:ByteArray} {c:Nat} (h:QAt B lab w K ⟨LX.new s c,[],[],[]⟩∧Mp 20 lab w K.mp []) (hB:B≤w.heap.size) (htb:Tb lab w) (F:FeedsQ K ⟨LX.new s c,[.map []],[],[]⟩ ⟨0,{ data:=#[] },0,0⟩ X') :
  Calls Tryz.prog 48 #[.pointer (some ⟨K.p,0,none⟩),.string { data:=#[] }] w fun e w'=>e=.returned .nilIface∧∃ lab',QAt B lab' w' K X'∧Mv PM w lab w' lab':=by
 have c0:=h.1.c0;refine calls_of_wpN Tryz.func48 rfl ?_;simp only [Tryz.ntmps48,List.size_toArray,List.length_cons,List.length_nil,Nat.reduceAdd,Nat.reduceSub,Array.replicate_succ,Array.replicate_zero,List.push_toArray,List.append_toArray,List.nil_append,List.cons_append];refine wpN_seq_k (fun K0 hK0=>?_);go_wp2;refine wpN_seq_k (fun K1 hK1=>?_);go_wp2_with fail;refine (pushContextQ h.1 hB (by simp) (.map []) 61 (.map (some K.mp)) ⟨K.mp,[],rfl,h.2,rfl,(fun x hx=>by cases hx),List.nodup_nil⟩ (fun _=>rfl)).mono ?_;rintro e w1 ⟨rfl,lab1,hp1,m1⟩;go_wp2;refine wpN_seq_k (fun K2 hK2=>?_);go_wp2;have hz:Cl 7 (lab1.ext w1.heap.size 7) (w1.alloc Zero98) w1.heap.size #[i64 0,.string { data:=#[] },i64 0,i64 0] 98:=Cl.alloc _ _ _ _ _;have mz:Mv (fun _=>False) w1 lab1 (w1.alloc Zero98) (lab1.ext w1.heap.size 7):=Mv.alloc _ _ _ _;have hpz:=hp1.alloc7 Zero98;have mmz:=m1.trans mz (fun _ h=>h.elim);have htz:=htb.mv mmz (by simp [PM]);have hBz:B≤(w1.alloc Zero98).heap.size:=Nat.le_trans hB mmz.size;obtain ⟨W,hW⟩:∃ W,W=w1.alloc Zero98:=⟨_,rfl⟩;have hW2:w1.alloc (Obj.cells #[Value.int IntKind.i64 0,Value.string { data:=#[] },Value.int IntKind.i64 0,Value.int IntKind.i64 0] 98)=W:=hW.symm;rw [← hW] at hz hpz mmz htz hBz;rw [hW2];obtain ⟨r,hr⟩:∃ r,r=w1.heap.size:=⟨_,rfl⟩;rw [← hr] at hz hpz mmz htz ⊢;have hwr:w.heap.size≤r:=by rw [hr];exact m1.size
 clear hr hW hW2;refine wpN_seq (wpN_block (wpL.loop ?_));refine wpL_feedsQ (I:=PIQ B lab w K r) F ⟨⟨_,_,_,_,_,_,_,_,_,_,_,_,_,_,_,_,_,_,_,_,_,_,_,_,_,_,_,_,_,_,_,_,_,rfl⟩,_,hpz,hBz,htz,hz,mmz⟩ ?_ ?_
 ·rintro n X L' ⟨xt,xv,xl,xp⟩ prev q a w2 R hx ht hp hX ⟨⟨t2,t3,t6,t7,t8,t9,t10,t11,t12,t13,t14,t15,t16,t17,t18,t19,t20,t21,t22,t23,t24,t25,t26,t27,t28,t29,t30,t31,t32,t33,t34,t35,t36,rfl⟩,lab2,hp2,hB2,ht2,hz2,mm2⟩;obtain ⟨pt,pv,pl,pp⟩:=prev;obtain rfl:xt=2:=ht;refine wpN_of_wp ?_;go_wp2_with fail;refine (nextQ hp2 R hx).mono ?_;rintro e w3 ⟨rfl,lab3,hp3,m3⟩;have hz3:=hz2.mv m3 (by simp [PM]);have d0:w3.cell? ⟨r,0,none⟩=some (i64 pt):=hz3.cell 0;have e0:∀ o,(w3.alloc o).cell? ⟨r,0,none⟩=some (i64 pt):=fun o=>(World.cell?_alloc_lt w3 o _ (World.block_lt_of_cell? w3 _ d0)).trans d0
  have e1:(((pt:Nat):Int) == 3)=false:=bqf (by have h3:pt ≠ 3:=hp;omega);have hp4:=hp3.alloc7 (.cells #[i64 (2:Nat),.string xv,i64 xl,i64 xp] 98);have m4:=(mm2.trans m3 (fun _ h=>h)).trans (Mv.alloc (M:=fun _=>False) w3 lab3 (.cells #[i64 (2:Nat),.string xv,i64 xl,i64 xp] 98) 7) (fun _ h=>h.elim);have HX:=Lib.hid hX;have HP:=Lib.hid hp
  try simp only [It.v]
  clear d0 hX hp hx;go_wp2;refine wpN_of_wp ?_;go_wp2;go_ret;exact ⟨rfl,_,by rw [HX.out];exact hp4,m4⟩
 ·rintro n X X2 L' ⟨xt,xv,xl,xp⟩ prev q a w2 R hx ht hw ⟨⟨t2,t3,t6,t7,t8,t9,t10,t11,t12,t13,t14,t15,t16,t17,t18,t19,t20,t21,t22,t23,t24,t25,t26,t27,t28,t29,t30,t31,t32,t33,t34,t35,t36,rfl⟩,lab2,hp2,hB2,ht2,hz2,mm2⟩;obtain ⟨pt,pv,pl,pp⟩:=prev;have e1:(((xt:Nat):Int) == 2)=false:=bqf (by have h3:xt ≠ 2:=ht;omega);refine wpN_of_wp ?_;go_wp2_with fail;refine (nextQ hp2 R hx).mono ?_;rintro e w3 ⟨rfl,lab3,hp3,m3⟩;have hz3:=hz2.mv m3 (by simp [PM]);have d0:w3.cell? ⟨r,0,none⟩=some (i64 pt):=hz3.cell 0;have d1:w3.cell? ⟨r,1,none⟩=some (.string pv):=hz3.cell 1;have d2:w3.cell? ⟨r,2,none⟩=some (i64 pl):=hz3.cell 2;have d3:w3.cell? ⟨r,3,none⟩=some (i64 pp):=hz3.cell 3;have f0:=hz3.free 0;have f1:=hz3.free 1;have f2:=hz3.free 2;have f3:=hz3.free 3;have hlt3:=lt_of_block hz3.1;have hne:r ≠ w3.heap.size:=by omega
  have HT:=Lib.hid ht;have HX:=Lib.hid hx
  try simp only [It.v]
  clear ht hx;go_wp2_with fail;have m7:Mv (·=7) w3 lab3 ((((w3.setCell ⟨r,0,none⟩ (i64 xt)).setCell ⟨r,1,none⟩ (.string xv)).setCell ⟨r,2,none⟩ (i64 xl)).setCell ⟨r,3,none⟩ (i64 xp)) lab3 :=
   (((Mv.setCell _ _ _ _ hz3.2).trans (Mv.setCell _ _ _ _ hz3.2) (fun _ h=>h)).trans (Mv.setCell _ _ _ _ hz3.2) (fun _ h=>h)).trans (Mv.setCell _ _ _ _ hz3.2) (fun _ h=>h)
  have hp4:=hp3.mv m7 (fun x hx e=>hx e);have mm3:=mm2.trans m3 (fun _ h=>h);have HM:Mv PM w lab ((((w3.setCell ⟨r,0,none⟩ (i64 xt)).setCell ⟨r,1,none⟩ (.string xv)).setCell ⟨r,2,none⟩ (i64 xl)).setCell ⟨r,3,none⟩ (i64 xp)) lab3:=by
   refine ⟨mm3.os,mm3.tape,mm3.output,Nat.le_trans mm3.size m7.size,fun k hk hn=>?_,mm3.lab⟩;refine Eq.trans ?_ (mm3.block k hk hn);have hne:k ≠ r:=by omega
   rw [Below.heap_setCell _ _ _ _ hne,Below.heap_setCell _ _ _ _ hne,Below.heap_setCell _ _ _ _ hne,Below.heap_setCell _ _ _ _ hne]
  have hz4:Cl 7 lab3 ((((w3.setCell ⟨r,0,none⟩ (i64 xt)).setCell ⟨r,1,none⟩ (.string xv)).setCell ⟨r,2,none⟩ (i64 xl)).setCell ⟨r,3,none⟩ (i64 xp)) r #[i64 xt,.string xv,i64 xl,i64 xp] 98:=(((hz3.set 0 (i64 xt)).set 1 (.string xv)).set 2 (i64 xl)).set 3 (i64 xp);have ht4:=(ht2.mv m3 (by simp [PM])).mv m7 (by decide);obtain ⟨W4,hW4⟩:∃ W4,W4=((((w3.setCell ⟨r,0,none⟩ (i64 xt)).setCell ⟨r,1,none⟩ (.string xv)).setCell ⟨r,2,none⟩ (i64 xl)).setCell ⟨r,3,none⟩ (i64 xp)):=⟨_,rfl⟩;rw [← hW4] at hp4 HM hz4 ht4 ⊢;clear hW4 m7 d0 d1 d2 d3 f0 f1 f2 f3 hz3 hp3;have m5:=Mv.alloc (M:=fun _=>False) W4 lab3 (Obj.cells #[i64 xt,.string xv,i64 xl,i64 xp] 98) 7;have M5:=HM.trans m5 (fun _ h=>h.elim);refine (hw B _ _ (Nat.le_trans hB M5.size) (hp4.mv m5 (fun _ _ h=>h)) (ht4.mv m5 (fun h=>h))).mono ?_;rintro e w6 ⟨rfl,lab6,hp6,m6⟩;have M6:=M5.trans m6 (fun _ h=>h);have hz6:=(hz4.mv m5 (fun h=>h)).mv m6 (by simp [PM]);have ht6:=(ht4.mv m5 (fun h=>h)).mv m6 (by simp [PM]);have hB6:=Nat.le_trans hB M6.size;clear hz4 ht4 hp4 HM m5 M5 m6 hw;go_wp2;exact ⟨⟨_,_,_,_,_,_,_,_,_,_,_,_,_,_,_,_,_,_,_,_,_,_,_,_,_,_,_,_,_,_,_,_,_,rfl⟩,_,hp6,hB6,ht6,hz6,M6⟩
theorem NewP.q {s:ByteArray} {c:Nat} (h:NewP B lab w K s c) (hp:K.ped=true):∃ lab',QAt B lab' w K ⟨LX.new s c,[],[],[]⟩∧Mp 20 lab' w K.mp []∧Mv (·=10) w lab w lab':=by
 obtain ⟨⟨top,cv,kv,vs,hx⟩,hm,-,hi⟩:=h;have m:Mv (fun x=>x=10) w lab w (fun k=>if lab k=10 then 20 else lab k):=⟨rfl,rfl,rfl,Nat.le_refl _,fun _ _ _=>rfl,fun k _ hn=>if_neg hn⟩;have hvs:vs=[]:=by
  cases vs with
  | nil=>rfl
  | cons x xs=>exact hx.cs.elim
 subst hvs;refine ⟨_,⟨top,cv,kv,K.iv,[],hp,hx.cl.mv m (by decide),hx.lx.mv m (by decide),hx.cv.mv m (by decide),hx.kv.mv m (by decide),⟨[],rfl,hi.mv m (by decide)⟩,trivial,hx.top,hx.root⟩,⟨hm.1,?_⟩,m⟩;show (if lab K.mp=10 then 20 else lab K.mp)=20;rw [if_pos hm.2]
def ReadQ (s:ByteArray) (m:List (ByteArray × TI)):Prop :=
 ∀ (K:PK) (c:Nat),∃ X',FeedsQ K ⟨LX.new s c,[.map []],[],[]⟩ ⟨0,{ data:=#[] },0,0⟩ X'∧X'.cx=[.map m]
set_option maxRecDepth 100000 in
set_option maxHeartbeats 1000000 in
theorem parse39Q (s:ByteArray) (m:List (ByteArray × TI)) (hB:B≤w.heap.size) (htb:Tb lab w) (hr:ReadQ s m) :
  Calls Tryz.prog 39 #[.string s,.string { data:=#[] },.bool true] w fun e w'=>∃ p mp lab',e=.returned (.tuple #[.pointer (some ⟨p,0,none⟩),.nilIface]) ∧
   w'.cell? ⟨p,0,none⟩=some (.map (some mp))∧CAtQ B 20 9 lab' w' (.map m) (.iface 61 (.map (some mp)))∧Mv PM w lab w' lab':=by
 go_enter Tryz.func39,Tryz.ntmps39;go_wp2_with fail;refine (newParser_c (lab:=lab) s true hB).mono ?_;rintro e w1 ⟨K,c,lab1,hped,rfl,hn,m1⟩;obtain ⟨X',hF,hcx⟩:=hr K c;obtain ⟨lab1',hq,hmp,m1'⟩:=hn.q hped;have m11:=(m1.mono (M':=PM) (fun _ h=>h.elim)).trans m1' (by rintro x rfl;decide);go_wp2_with fail;refine (parse48Q ⟨hq,hmp⟩ (Nat.le_trans hB m1.size) (htb.mv m11 (by simp [PM])) hF).mono ?_;rintro e w2 ⟨rfl,lab2,h2,m2⟩;obtain ⟨top,cv,kv,iv,vs,hx⟩:=id h2;obtain ⟨v,vs',rfl,hc,hcs⟩:=CsAtQ.form (hcx ▸ hx.cs);have hvs:vs'=[]:=by
  cases vs' with
  | nil=>rfl
  | cons x xs=>exact hcs.elim
 subst hvs;have hv:=hx.root v (by simp);subst hv;have c0:=h2.c0;have M2:=m11.trans m2 (fun _ h=>h);clear hx hcs h2 hn hF hcx m1 m2 hped hq hmp m1' m11;go_wp2;go_ret2;exact ⟨K.p,K.mp,lab2,rfl,c0,hc,M2⟩
set_option maxRecDepth 100000 in
set_option maxHeartbeats 1000000 in
theorem Checks_c (s:ByteArray) (m:List (ByteArray × TI)) (hB:B≤w.heap.size) (htb:Tb lab w) (hr:ReadQ s m) :
  Calls Tryz.prog 32 #[.string s] w fun e w'=>∃ mp lab',e=.returned (.tuple #[.map (some mp),.nilIface])∧CAtQ B 20 9 lab' w' (.map m) (.iface 61 (.map (some mp)))∧Mv PM w lab w' lab':=by
 go_enter Tryz.func32,Tryz.ntmps32;go_wp2_with fail;refine (parse39Q s m hB htb hr).mono ?_;rintro e w1 ⟨p,mp,lab1,rfl,c0,hc,m1⟩;go_wp2;go_ret2;exact ⟨mp,lab1,rfl,hc,m1⟩
end
section
variable {B:Nat} {lab lab1:Lab} {w w1:World} {K:PK} {X X':PQ} {M:Nat→Prop} {L:LX} {c2:CQ} {cs:List CQ} {ks:List ByteArray} {ls:List Int}
set_option maxRecDepth 100000 in
set_option maxHeartbeats 4000000 in
theorem itemQ_ng_plain (h:QAt B lab w K X) (hB:B≤w.heap.size) (xv:ByteArray) (xl xp:Int) (hsz:xv.size≤1000000) (hdig:∀ i,i < xv.size→isDig (byteAt xv i)=true ∨ byteAt xv i=45) (hasc:∀ i,i < xv.size→byteAt xv i < 128)
  (n:Int) (hpi:∀ w,Calls Tryz.prog 68 #[.string xv,i64 10,i64 64] w fun e w'=>e=.returned (.tuple #[.int .i64 n,.nilIface])∧Below w.heap.size w w')
  (htb:Tb lab w) (hs:X.Sets .leaf X') :
  Calls Tryz.prog 57 #[.pointer (some ⟨K.p,0,none⟩),.agg #[i64 7,.string xv,i64 xl,i64 xp],.string { data:=#[] }] w fun e w'=>e=.returned .nilIface∧∃ lab',QAt B lab' w' K X'∧Mv PM w lab w' lab':=by
 obtain ⟨lab1,hb,m1⟩:=h.boxed hB 7 xv xl xp;have HD:=Lib.hid hdig;have HA:=Lib.hid hasc;clear hdig hasc;go_enter Tryz.func57,Tryz.ntmps57;go_wp2_with fail;have hWs:(Boxed w K 7 xv xl xp).heap.size=w.heap.size + 1 + 1 + 1:=by unfold Boxed;simp [World.size_alloc]
 have HW:=Lib.hid hWs;clear hWs;go_loopw [9] (fun i wr=>∃ k:Nat,k≤xv.size∧i=.int .i64 k∧wr=(Boxed w K 7 xv xl xp).iter xv k) (fun i _=>xv.size - (RowKit.intOf i).toNat)
 case atStart=>exact ⟨0,Nat.zero_le _,rfl,rfl⟩
 case round =>
  obtain ⟨k,hk,rfl,rfl⟩:=hrel;by_cases hlt:k < xv.size
  ·have hk2:=hlt;have hnx:∀ ty,(Instr.next (.pointer (some ⟨w.heap.size + 1 + 1 + 1,0,none⟩)) true ty).run Tryz.prog ((Boxed w K 7 xv xl xp).iter xv k)=.ok (.tuple #[.bool true,.int .i64 k,.int .i32 (byteAt xv k:Nat)]) ((Boxed w K 7 xv xl xp).iter xv (k + 1)):=fun ty=>by
    have:=run_next_ascii (P:=Tryz.prog) (Boxed w K 7 xv xl xp) xv k ty hk2 (by rw [byteAt_get];exact HA.out k hk2);rwa [HW.out,byteAt_get] at this
   have hc:=HA.out k hk2;rcases HD.out k hlt with e1 | e1
   ·go_wp2_with fail
    refine (isDig_c _ hc _).mono ?_;rintro e w' ⟨rfl,rfl⟩;go_wp2;go_roundw
    case rel=>exact ⟨k + 1,by omega,by go_num,rfl⟩
    case measure=>simp [RowKit.intOf];omega
   ·have e0:isDig (byteAt xv k)=false:=by rw [e1];rfl
    have e2:(((byteAt xv k:Nat):Int) == 45)=true:=beq_iff_eq.2 (by omega);have e3:(((byteAt xv k:Nat):Int) != 45)=false:=by rw [bne,e2];rfl
    clear e1;go_wp2_with fail;refine (isDig_c _ hc _).mono ?_;rintro e w' ⟨rfl,rfl⟩;go_wp2;go_roundw
    case rel=>exact ⟨k + 1,by omega,by go_num,rfl⟩
    case measure=>simp [RowKit.intOf];omega
  ·have hks:k=xv.size:=by omega
   have hnx:∀ ty,(Instr.next (.pointer (some ⟨w.heap.size + 1 + 1 + 1,0,none⟩)) true ty).run Tryz.prog ((Boxed w K 7 xv xl xp).iter xv k)=.ok (.tuple #[.bool false]) ((Boxed w K 7 xv xl xp).iter xv k):=fun ty=>by
    have:=run_next_end (P:=Tryz.prog) (Boxed w K 7 xv xl xp) xv k ty hlt;rwa [HW.out] at this
   have hfull:xv.extract 0 k=xv:=by rw [hks];exact ByteArray.extract_zero_size
   have hemp:xv.extract k xv.size=⟨#[]⟩:=by rw [hks];exact ByteArray.extract_eq_empty_iff.2 (by omega)
   have HKS:=Lib.hid hks;have HFU:=Lib.hid hfull;have HEM:=Lib.hid hemp;clear hks hfull hemp;have m2:=(iter_mv (Boxed w K 7 xv xl xp) lab1 xv k);have hb2:=hb.mv (hb.pat.mv m2 (fun _ _ h=>h)) (m2.mono (fun _ h=>h.elim));have m2':=m1.trans m2 (fun _ h=>h.elim);obtain ⟨W,hW⟩:∃ W,W=(Boxed w K 7 xv xl xp).iter xv k:=⟨_,rfl⟩;rw [← hW] at hb2 m2 m2' hnx ⊢;have d1:=hb2.b1.cell 1;clear hW hb;have hfl:xv.extract 0 k=xv:=HFU.out;go_wp2_with fail;clear hfl;refine (hpi W).mono ?_;rintro e w3 ⟨rfl,hbl⟩;have m3:=Mv.below (M:=fun _=>False) hbl (lab1.ext (Boxed w K 7 xv xl xp).heap.size 7) 7;have hb3:=hb2.mv (hb2.pat.mv m3 (fun _ _ h=>h)) (m3.mono (fun _ h=>h.elim));have m3':=m2'.trans m3 (fun _ h=>h.elim);have htb3:=htb.mv m3' (by simp [PM]);have d1:=hb3.b1.cell 1;have hsl:xv.extract k xv.size=⟨#[]⟩:=HEM.out;clear hbl m3 hb2 hpi;go_wp2_with fail;refine (Tryz.strings_TrimSpace ⟨#[]⟩ w3 (by decide) (fun j b h=>by simp at h) htb3.1).mono ?_;rintro e w4 ⟨rfl,hw4⟩;have hbl4:Below w3.heap.size w3 w4:=by rw [hw4];exact ⟨rfl,rfl,rfl,by rw [Go.Lib.bytesWorld_size];omega,fun k hk=>Go.Lib.bytesWorld_at_old w3 5 ⟨#[]⟩ k hk⟩
   have m4:=Mv.below (M:=fun _=>False) hbl4 ((lab1.ext (Boxed w K 7 xv xl xp).heap.size 7).ext W.heap.size 7) 7;have hb4:=hb3.mv (hb3.pat.mv m4 (fun _ _ h=>h)) (m4.mono (fun _ h=>h.elim));have m4':=m3'.trans m4 (fun _ h=>h.elim);rw [show (⟨(Lib.trimSpace (⟨#[]⟩:ByteArray).data.toList).toArray⟩:ByteArray)=⟨#[]⟩ from rfl];clear hw4 hbl4 m4 hb3 hsl;go_wp2_with fail;refine (Tryz.strings_ToLower_ascii ⟨#[]⟩ w4 (by decide) (fun j b h=>by simp at h)).mono ?_;rintro e w5 ⟨rfl,hbl5⟩;have m5:=Mv.below (M:=fun _=>False) hbl5 (((lab1.ext (Boxed w K 7 xv xl xp).heap.size 7).ext W.heap.size 7).ext w3.heap.size 7) 7;have hb5:=hb4.mv (hb4.pat.mv m5 (fun _ _ h=>h)) (m5.mono (fun _ h=>h.elim));have m5':=m4'.trans m5 (fun _ h=>h.elim);have e0:(⟨(Lib.toLowerA (⟨#[]⟩:ByteArray).data.toList).toArray⟩:ByteArray)=⟨#[]⟩:=rfl;have d0:=hb5.b0.cell 0;have d1:=hb5.b1.cell 0;have d2:=hb5.b1.cell 1;have d3:=hb5.b1.cell 2;have d4:=hb5.b1.cell 3;simp at d0 d1 d2 d3 d4;simp only [e0];clear hbl5 m5 hb4 e0;go_wp2_with fail;refine (layQ hb5.pat hb5.hB hs 7 xv xl xp 2 _ (leafQ _ (by decide)) _ _ hb5.b0 hb5.b2).mono ?_;rintro e w6 ⟨rfl,lab6,h6,m6⟩;go_wp2;go_ret;exact ⟨rfl,lab6,h6,m5'.trans m6 (fun _ h=>h)⟩
end
def ItemNgQ (low:ByteArray) (f:Int→Int):Prop :=
 ∀ (B:Nat) (lab:Lab) (w:World) (K:PK) (X X':PQ),QAt B lab w K X→B≤w.heap.size→∀ (xv:ByteArray) (xl xp:Int) (d:Nat),d < xv.size→xv.size≤1000000 →
  (∀ i,i < d→isDig (byteAt xv i)=true ∨ byteAt xv i=45)→isDig (byteAt xv d)=false→byteAt xv d ≠ 45→(∀ i,i < xv.size→byteAt xv i < 128) →
  ∀ n:Int,(∀ w,Calls Tryz.prog 68 #[.string (xv.extract 0 d),i64 10,i64 64] w fun e w'=>e=.returned (.tuple #[.int .i64 n,.nilIface])∧Below w.heap.size w w') →
  ∀ sf:ByteArray,xv.extract d xv.size=sf→(∀ (j:Nat) b,sf.data.toList[j]?=some b→b.toNat < 128)→Lib.trimSpace sf.data.toList=sf.data.toList→(⟨(Lib.toLowerA sf.data.toList).toArray⟩:ByteArray)=low→-4611686018427387904≤f n→f n≤4611686018427387904 →
  Tb lab w→X.Sets .leaf X' →
  Calls Tryz.prog 57 #[.pointer (some ⟨K.p,0,none⟩),.agg #[i64 7,.string xv,i64 xl,i64 xp],.string { data:=#[] }] w fun e w'=>e=.returned .nilIface∧∃ lab',QAt B lab' w' K X'∧Mv PM w lab w' lab'
set_option maxRecDepth 100000 in
set_option maxHeartbeats 16000000 in
theorem itemQ_ng {low:ByteArray} {f:Int→Int} (hlm:LowF low f):ItemNgQ low f:=by
 intro B lab w K X X' h hB xv xl xp d hd hsz hdig hstop hstop2 hasc n hpi sf hsf hsa htrim hlow hb1 hbU htb hs;have HLM:=Lib.hid hlm;clear hlm;obtain ⟨lab1,hb,m1⟩:=h.boxed hB 7 xv xl xp;have HD:=Lib.hid hdig;have HS1:=Lib.hid hstop;have HS2:=Lib.hid hstop2;have HA:=Lib.hid hasc;have HT:=Lib.hid htrim;have HL:=Lib.hid hlow;have HX:=Lib.hid hsf;have HAS:=Lib.hid hsa;clear hdig hstop hstop2 hasc htrim hlow hsf hsa;go_enter Tryz.func57,Tryz.ntmps57;go_wp2_with fail;have hWs:(Boxed w K 7 xv xl xp).heap.size=w.heap.size + 1 + 1 + 1:=by unfold Boxed;simp [World.size_alloc]
 have HW:=Lib.hid hWs;clear hWs;go_loopw [9] (fun i wr=>∃ k:Nat,k≤d∧i=.int .i64 k∧wr=(Boxed w K 7 xv xl xp).iter xv k) (fun i _=>d - (RowKit.intOf i).toNat)
 case atStart=>exact ⟨0,Nat.zero_le _,rfl,rfl⟩
 case round =>
  obtain ⟨k,hk,rfl,rfl⟩:=hrel;have hk2:k < xv.size:=by omega
  have hnx:∀ ty,(Instr.next (.pointer (some ⟨w.heap.size + 1 + 1 + 1,0,none⟩)) true ty).run Tryz.prog ((Boxed w K 7 xv xl xp).iter xv k)=.ok (.tuple #[.bool true,.int .i64 k,.int .i32 (byteAt xv k:Nat)]) ((Boxed w K 7 xv xl xp).iter xv (k + 1)):=fun ty=>by
   have:=run_next_ascii (P:=Tryz.prog) (Boxed w K 7 xv xl xp) xv k ty hk2 (by rw [byteAt_get];exact HA.out k hk2);rwa [HW.out,byteAt_get] at this
  have hc:=HA.out k hk2;by_cases hlt:k < d
  ·rcases HD.out k hlt with e1 | e1
   ·go_wp2_with fail
    refine (isDig_c _ hc _).mono ?_;rintro e w' ⟨rfl,rfl⟩;go_wp2;go_roundw
    case rel=>exact ⟨k + 1,by omega,by go_num,rfl⟩
    case measure=>simp [RowKit.intOf];omega
   ·have e0:isDig (byteAt xv k)=false:=by rw [e1];rfl
    have e2:(((byteAt xv k:Nat):Int) == 45)=true:=beq_iff_eq.2 (by omega);have e3:(((byteAt xv k:Nat):Int) != 45)=false:=by rw [bne,e2];rfl
    clear e1;go_wp2_with fail;refine (isDig_c _ hc _).mono ?_;rintro e w' ⟨rfl,rfl⟩;go_wp2;go_roundw
    case rel=>exact ⟨k + 1,by omega,by go_num,rfl⟩
    case measure=>simp [RowKit.intOf];omega
  ·obtain rfl:k=d:=by omega
   have e1:=HS1.out;have e2:(((byteAt xv k:Nat):Int) == 45)=false:=bqf (by have:=HS2.out;omega);have e3:(((byteAt xv k:Nat):Int) != 45)=true:=by rw [bne,e2];rfl
   go_wp2_with fail
   refine (isDig_c _ hc _).mono ?_;rintro e w' ⟨rfl,rfl⟩;have m2:=(iter_mv (Boxed w K 7 xv xl xp) lab1 xv (k + 1));have hb2:=hb.mv (hb.pat.mv m2 (fun _ _ h=>h)) (m2.mono (fun _ h=>h.elim));have m2':=m1.trans m2 (fun _ h=>h.elim);obtain ⟨W,hW⟩:∃ W,W=(Boxed w K 7 xv xl xp).iter xv (k + 1):=⟨_,rfl⟩;rw [← hW] at hb2 m2 m2' ⊢;have d1:=hb2.b1.cell 1;clear hW hb hnx;go_wp2_with fail;refine (hpi W).mono ?_;rintro e w3 ⟨rfl,hbl⟩;have m3:=Mv.below (M:=fun _=>False) hbl (lab1.ext (Boxed w K 7 xv xl xp).heap.size 7) 7;have hb3:=hb2.mv (hb2.pat.mv m3 (fun _ _ h=>h)) (m3.mono (fun _ h=>h.elim));have m3':=m2'.trans m3 (fun _ h=>h.elim);have htb3:=htb.mv m3' (by simp [PM]);have d1:=hb3.b1.cell 1;have hsl:xv.extract k xv.size=sf:=HX.out;clear hbl m3 hb2 hpi;go_wp2_with fail;refine (Tryz.strings_TrimSpace sf w3 (by rw [← hsl];simp;omega) HAS.out htb3.1).mono ?_;rintro e w4 ⟨rfl,hw4⟩;have hbl4:Below w3.heap.size w3 w4:=by rw [hw4];exact ⟨rfl,rfl,rfl,by rw [Go.Lib.bytesWorld_size];omega,fun k hk=>Go.Lib.bytesWorld_at_old w3 5 sf k hk⟩
   have m4:=Mv.below (M:=fun _=>False) hbl4 ((lab1.ext (Boxed w K 7 xv xl xp).heap.size 7).ext W.heap.size 7) 7;have hb4:=hb3.mv (hb3.pat.mv m4 (fun _ _ h=>h)) (m4.mono (fun _ h=>h.elim));have m4':=m3'.trans m4 (fun _ h=>h.elim);rw [HT.out];clear hw4 hbl4 m4 hb3 hsl;go_wp2_with fail;refine (Tryz.strings_ToLower_ascii ⟨sf.data.toList.toArray⟩ w4 ?_ ?_).mono ?_
   ·have:=congrArg ByteArray.size HX.out;simp at this;show sf.data.toList.toArray.size≤_;simp;omega
   ·simpa using HAS.out
   rintro e w5 ⟨rfl,hbl5⟩;have m5:=Mv.below (M:=fun _=>False) hbl5 (((lab1.ext (Boxed w K 7 xv xl xp).heap.size 7).ext W.heap.size 7).ext w3.heap.size 7) 7;have hb5:=hb4.mv (hb4.pat.mv m5 (fun _ _ h=>h)) (m5.mono (fun _ h=>h.elim));have m5':=m4'.trans m5 (fun _ h=>h.elim);have hlm:=HLM.out;clear HLM;cases hlm
   all_goals
    dsimp only at hb1 hbU
    have e0:=HL.out;have d0:=hb5.b0.cell 0;have d1:=hb5.b1.cell 0;have d2:=hb5.b1.cell 1;have d3:=hb5.b1.cell 2;have d4:=hb5.b1.cell 3;simp at d0 d1 d2 d3 d4;simp only [e0];clear hbl5 m5 hb4 e0;go_wp2_with fail;refine (layQ hb5.pat hb5.hB hs 7 xv xl xp 2 _ (leafQ _ (by decide)) _ _ hb5.b0 hb5.b2).mono ?_;rintro e w6 ⟨rfl,lab6,h6,m6⟩;go_wp2;go_ret;exact ⟨rfl,lab6,h6,m5'.trans m6 (fun _ h=>h)⟩
end Go.Cf
namespace Go.Cf
open Go.RowKit Go.Conc Go.Proofs Go.Maps
attribute [local go_sem ↓] nt_61_61b nt_75_61b
def markM (s:ByteArray) (m:List (ByteArray × TI)):List (ByteArray × TI):=m.map fun x=>if x.1=s then (x.1,((x.2.1.1,true),x.2.2)) else x
def markCx (s:ByteArray):List CQ→List CQ
 | []=>[]
 | [.map m]=>[.map (markM s m)]
 | [.arr n]=>[.arr n]
 | c :: c2 :: cs=>c :: markCx s (c2 :: cs)
def PQ.mark (X:PQ) (s:ByteArray):PQ:={ X with cx:=markCx s X.cx }
def noKeyQ (s:ByteArray):CQ→Prop
 | .map m=>∀ x ∈ m,x.1 ≠ s
 | .arr _=>True
def RootIn (s:ByteArray) (i:TI):List CQ→Prop
 | []=>False
 | [c]=>∃ m,c=.map m∧(s,i) ∈ m∧(m.map (·.1)).Nodup
 | c :: c2 :: cs=>noKeyQ s c∧RootIn s i (c2 :: cs)
theorem markCx_len (s:ByteArray):∀ cs:List CQ,(markCx s cs).length=cs.length
 | []=>rfl
 | [.map m]=>rfl
 | [.arr n]=>rfl
 | c :: c2 :: cs=>by simp only [markCx,List.length_cons,markCx_len s (c2 :: cs)]
theorem RootIn.at {s:ByteArray} {i:TI}:∀ {cs:List CQ} (d:Nat) {c:CQ},RootIn s i cs→cs[d]?=some c→(d + 1 < cs.length∧noKeyQ s c) ∨ (d + 1=cs.length∧∃ m,c=.map m∧(s,i) ∈ m∧(m.map (·.1)).Nodup)
 | [],_,_,h,_=>h.elim
 | [c0],0,c,h,e=>by
  simp only [List.getElem?_cons_zero,Option.some.injEq] at e;subst e;exact .inr ⟨rfl,h⟩
 | [c0],d + 1,c,h,e=>by simp at e
 | c0 :: c2 :: cs,0,c,h,e=>by
  simp only [List.getElem?_cons_zero,Option.some.injEq] at e;subst e;exact .inl ⟨by simp,h.1⟩
 | c0 :: c2 :: cs,d + 1,c,h,e=>by
  rcases RootIn.at d h.2 (by simpa using e) with ⟨h1,h2⟩ | ⟨h1,h2⟩
  ·exact .inl ⟨by simp only [List.length_cons] at h1 ⊢;omega,h2⟩
  ·exact .inr ⟨by simp only [List.length_cons] at h1 ⊢;omega,h2⟩
section
variable {B ℓ b:Nat} {lab lab1:Lab} {w w1:World} {K:PK} {X X':PQ} {s:ByteArray}
theorem mpv_look {t:List (ByteArray × Value)} (h:MpV ℓ lab w b t) (hs:s.size≤maxLen):(∃ x ∈ t,x.1=s∧(Instr.lookup 61 (.map (some b)) (.string s) true).run Tryz.prog w=.ok (.tuple #[x.2,.bool true]) w) ∨
  ((∀ x ∈ t,x.1 ≠ s)∧(Instr.lookup 61 (.map (some b)) (.string s) true).run Tryz.prog w=.ok (.tuple #[.nilIface,.bool false]) w):=by
 have key:∀ y:ByteArray,(y.data.toList == s.data.toList)=true→y=s:=fun y hy=>by
  rw [beq_iff_eq] at hy
  cases y;cases s;rename_i a c;cases a;cases c;simp only at hy;subst hy;rfl
 rcases ent_look h hs with ⟨x,hx,hr⟩ | ⟨hx,hr⟩
 ·left
  have hm:=List.mem_of_find?_eq_some hx;have hk:=List.find?_some hx;obtain ⟨y,hy,rfl⟩:=List.mem_map.1 hm;exact ⟨y,hy,key _ hk,hr⟩
 ·right
  refine ⟨fun x hx' e=>?_,hr⟩;rw [List.find?_eq_none] at hx;have:=hx _ (List.mem_map_of_mem hx');simp only at this;rw [e] at this;simp at this
theorem CsAtQ.at:∀ {cs:List CQ} {vs:List Value} (d:Nat) {c:CQ},CsAtQ B lab w cs vs→cs[d]?=some c→∃ v,vs[d]?=some v∧CAtQ B (20 + (cs.length - 1 - d)) (tauP (cs.length - 1 - d)) lab w c v
 | c :: cs,v :: vs,0,_,h,e=>by
  simp only [List.getElem?_cons_zero,Option.some.injEq] at e;subst e;exact ⟨v,rfl,by simpa using h.1⟩
 | c :: cs,v :: vs,d + 1,_,h,e=>by
  obtain ⟨u,h1,h2⟩:=CsAtQ.at d h.2 (by simpa using e);refine ⟨u,by simpa using h1,?_⟩;rwa [show (c :: cs).length - 1 - (d + 1)=cs.length - 1 - d from by simp;omega]
 | [],[],_,_,_,e=>by simp at e
 | [],_ :: _,_,_,h,_=>h.elim
 | _ :: _,[],_,_,h,_=>h.elim
theorem nodup_inj {α β:Type} {f:α→β}:∀ {l:List α},(l.map f).Nodup→∀ {x y:α},x ∈ l→y ∈ l→f x=f y→x=y
 | [],_,_,_,h,_,_=>by cases h
 | a :: l,hn,x,y,hx,hy,e=>by
  rw [List.map_cons,List.nodup_cons] at hn;rcases List.mem_cons.1 hx with hx | hx
  ·rcases List.mem_cons.1 hy with hy | hy
   ·rw [hx,hy]
   ·exact absurd (by rw [← hx,e];exact List.mem_map_of_mem hy) hn.1
  ·rcases List.mem_cons.1 hy with hy | hy
   ·exact absurd (by rw [← hy,← e];exact List.mem_map_of_mem hx) hn.1
   ·exact nodup_inj hn.2 hx hy e
theorem root_marked {z:List (ByteArray × TI × Value)} {x:ByteArray × TI × Value} {g:Nat} (hz:(z.map fun x=>(x.1,x.2.1)).map (·.1) |>.Nodup) (hv:(z.map fun x=>x.2.2).Nodup) (ht:∀ x ∈ z,Tok 9 lab w x.2.1 x.2.2) (hx:x ∈ z) (hxs:x.1=s) (hxg:x.2.2=.iface 113 (.pointer (some ⟨g,0,none⟩))) :
  ∀ y ∈ z,Tok 9 lab (w.setCell ⟨g,5,none⟩ (.bool true)) (if y.1=s then ((y.2.1.1.1,true),y.2.1.2) else y.2.1) y.2.2:=by
 have hgl:lab g=9:=by
  obtain ⟨b,c0,c1,c3,u,e,hc,_⟩:=ht x hx;rw [hxg] at e;simp only [Value.iface.injEq,Value.pointer.injEq,Option.some.injEq,Addr.mk.injEq,true_and,and_true] at e;rw [e];exact hc.2
 have m:Mv (·=9) w lab (w.setCell ⟨g,5,none⟩ (.bool true)) lab:=Mv.setCell _ _ _ _ hgl;intro y hy;rw [List.map_map] at hz;obtain ⟨b,c0,c1,c3,u,e,hc,hu⟩:=ht y hy;have hu':=isV.mv m (by decide) _ _ hu;by_cases hys:y.1=s
 ·have hyx:y=x:=nodup_inj hz hy hx (by show y.1=x.1;rw [hys,hxs]);rw [if_pos hys];rw [hyx,hxg] at e;simp only [Value.iface.injEq,Value.pointer.injEq,Option.some.injEq,Addr.mk.injEq,true_and,and_true] at e;subst e;exact ⟨g,c0,c1,c3,u,by rw [hyx,hxg],hc.set 5 (.bool true),hu'⟩
 ·rw [if_neg hys];have hne:g ≠ b:=fun e'=>by
   subst e';have:=nodup_inj hv hy hx (by rw [e,hxg]);exact hys (by rw [this,hxs])
  refine ⟨b,c0,c1,c3,u,e,⟨?_,hc.2⟩,hu'⟩;rw [Below.heap_setCell _ _ _ _ (fun e'=>hne e'.symm)];exact hc.1
theorem CsAtQ.marked {i:TI} {g:Nat}:∀ {cs:List CQ} {vs:List Value},CsAtQ B lab w cs vs→RootIn s i cs→(∀ v,vs.getLast?=some v→∃ b,v=.iface 61 (.map (some b))∧∀ t:List (ByteArray × Value),MpV 20 lab w b t→∃ x ∈ t,x.1=s∧x.2=.iface 113 (.pointer (some ⟨g,0,none⟩)))→lab g=9 →
  CsAtQ B lab (w.setCell ⟨g,5,none⟩ (.bool true)) (markCx s cs) vs
 | [],_,_,h,_,_=>h.elim
 | [c],[v],h,hr,hg,hl=>by
  obtain ⟨m,rfl,hm,hnd⟩:=hr;obtain ⟨⟨b,z,rfl,hmp,hz,ht,hv⟩,_⟩:=h;obtain ⟨b',e,hlk⟩:=hg _ rfl;cases e;obtain ⟨x',hx',hxs,hxg⟩:=hlk _ hmp;obtain ⟨x,hx,rfl⟩:=List.mem_map.1 hx';have mm:Mv (·=9) w lab (w.setCell ⟨g,5,none⟩ (.bool true)) lab:=Mv.setCell _ _ _ _ hl;have hk:=root_marked (by rw [hz];exact hnd) hv ht hx hxs hxg;refine ⟨⟨b,z.map fun y=>(y.1,(if y.1=s then ((y.2.1.1.1,true),y.2.1.2) else y.2.1),y.2.2),rfl,?_,?_,?_,?_⟩,trivial⟩
  ·rw [List.map_map];exact hmp.mv mm (by decide)
  ·rw [← hz,markM,List.map_map,List.map_map];refine List.map_congr_left fun y _=>?_
   show (y.1,_)=_
   simp only [Function.comp]
   split <;> rfl
  ·intro y hy;obtain ⟨y',hy',rfl⟩:=List.mem_map.1 hy;exact hk y' hy'
  ·rw [List.map_map];exact hv
 | c :: c2 :: cs,v :: v2 :: vs,h,hr,hg,hl=>by
  have mm:Mv (·=9) w lab (w.setCell ⟨g,5,none⟩ (.bool true)) lab:=Mv.setCell _ _ _ _ hl;have e0:markCx s (c :: c2 :: cs)=c :: markCx s (c2 :: cs):=by simp only [markCx]
  rw [e0];refine ⟨?_,CsAtQ.marked h.2 hr.2 (fun u hu=>hg u (by simpa using hu)) hl⟩;have e:(markCx s (c2 :: cs)).length=(c2 :: cs).length:=markCx_len s _;rw [e];exact h.1.mv mm (by omega) (by unfold tauP;rw [if_neg (by simp)];decide) (by decide)
 | [_],[],h,_,_,_=>h.elim
 | [_],_ :: _ :: _,h,_,_,_=>h.2.elim
 | _ :: _ :: _,[],h,_,_,_=>h.elim
 | _ :: _ :: _,[_],h,_,_,_=>h.2.elim
end
end Go.Cf
namespace Go.Cf
open Go.RowKit Go.Conc Go.Proofs
attribute [local go_sem ↓] mk75z mk61
section
variable {B:Nat} {lab lab1:Lab} {w w1:World} {K:PK} {X X':PQ} {M:Nat→Prop} {L:LX} {c2:CQ} {cs:List CQ} {ks:List ByteArray} {ls:List Int}
set_option maxRecDepth 100000 in
set_option maxHeartbeats 1000000 in
theorem itemQ_mapend (m:List (ByteArray × TI)) (h:QAt B lab w K ⟨L,.map m :: c2 :: cs,ks,ls⟩) (hB:B≤w.heap.size) (hlen:cs.length≤1000000) (xv:ByteArray) (xl xp:Int) (hs:(⟨L,c2 :: cs,ks,ls⟩:PQ).Sets (CQ.map m).tv X') :
  Calls Tryz.prog 57 #[.pointer (some ⟨K.p,0,none⟩),.agg #[i64 (13:Nat),.string xv,i64 xl,i64 xp],.string { data:=#[] }] w fun e w'=>e=.returned .nilIface∧∃ lab',QAt B lab' w' K X'∧Mv PM w lab w' lab':=by
 obtain ⟨lab1,hb,m1⟩:=h.boxed hB 13 xv xl xp;have md:Mv (fun _=>False) (Boxed w K 13 xv xl xp) lab1 (Boxed w K 13 xv xl xp).drew lab1:=Mv.aDraw _ _ _;have hbd:=hb.mv (hb.pat.mv md (fun _ _ h=>h)) (md.mono (fun _ h=>h.elim));obtain ⟨top,cv,kv,iv,vs,hx⟩:=id hbd.pat;have HP:=Lib.hid (popTopQ (.map m) c2 cs hx rfl hlen);have HB:=Lib.hid hbd;have HM:=Lib.hid (m1.trans md (fun _ h=>h.elim));have d0:(Boxed w K 13 xv xl xp).drew.cell? ⟨w.heap.size,0,none⟩=some (.pointer (some ⟨K.p,0,none⟩)):=hbd.b0.cell 0;have d1:(Boxed w K 13 xv xl xp).drew.cell? ⟨w.heap.size + 1,0,none⟩=some (i64 (13:Nat)):=hbd.b1.cell 0;have d2:(Boxed w K 13 xv xl xp).drew.cell? ⟨w.heap.size + 1,1,none⟩=some (.string xv):=hbd.b1.cell 1;have d3:(Boxed w K 13 xv xl xp).drew.cell? ⟨w.heap.size + 1,2,none⟩=some (i64 xl):=hbd.b1.cell 2;have d4:(Boxed w K 13 xv xl xp).drew.cell? ⟨w.heap.size + 1,3,none⟩=some (i64 xp):=hbd.b1.cell 3;clear hx hbd hb m1 md;go_enter Tryz.func57,Tryz.ntmps57;go_wp2_with fail
 go_region_law (first
  | (
   go_simp
   go_at_call 66
   refine HP.out.mono ?_;rintro e w5 ⟨rfl,hc,hp,m5⟩;obtain ⟨hr,mr⟩:=hp.relab (21 + cs.length) (by simp only [List.length_cons];omega);have hj:=hc.close (by omega);obtain ⟨t,u,rfl⟩:=hc.form;have m05:=(m5.mono (M':=PM) (fun x hx=>by subst hx;decide)).trans mr (fun _ h=>h);have HC:=Lib.hid (layQ hr (Nat.le_trans HB.out.hB m5.size) hs 13 xv xl xp t u hj _ (w.heap.size + 1 + 1) (HB.out.b0.mv m05 (by simp [PM])) (HB.out.b2.mv m05 (by simp [PM])));have HMM:=Lib.hid (HM.out.trans m05 (fun _ h=>h));have f1:w5.cell? ⟨w.heap.size + 1,0,none⟩=some (i64 (13:Nat)):=(HB.out.b1.mv m05 (by simp [PM])).cell 0;have f2:w5.cell? ⟨w.heap.size + 1,1,none⟩=some (.string xv):=(HB.out.b1.mv m05 (by simp [PM])).cell 1;have f3:w5.cell? ⟨w.heap.size + 1,2,none⟩=some (i64 xl):=(HB.out.b1.mv m05 (by simp [PM])).cell 2;have f4:w5.cell? ⟨w.heap.size + 1,3,none⟩=some (i64 xp):=(HB.out.b1.mv m05 (by simp [PM])).cell 3
   clear hc hp m5 hr mr hj m05)
  | (
   go_simp
   go_at_call 62
   refine HC.out.mono ?_
   rintro e w6 ⟨rfl,lab6,h6,m6⟩))
 all_goals
  go_wp2;go_ret;exact ⟨rfl,lab6,h6,HMM.out.trans m6 (fun _ h=>h)⟩
set_option maxRecDepth 100000 in
set_option maxHeartbeats 1000000 in
theorem itemQ_listend (l:Nat) (h:QAt B lab w K ⟨L,.arr l :: c2 :: cs,ks,ls⟩) (hB:B≤w.heap.size) (hlen:cs.length≤1000000) (xv:ByteArray) (xl xp:Int) (hs:(⟨L,c2 :: cs,ks,ls⟩:PQ).Sets (CQ.arr l).tv X') :
  Calls Tryz.prog 57 #[.pointer (some ⟨K.p,0,none⟩),.agg #[i64 (11:Nat),.string xv,i64 xl,i64 xp],.string { data:=#[] }] w fun e w'=>e=.returned .nilIface∧∃ lab',QAt B lab' w' K X'∧Mv PM w lab w' lab':=by
 obtain ⟨lab1,hb,m1⟩:=h.boxed hB 11 xv xl xp;obtain ⟨top,cv,kv,iv,vs,hx⟩:=id hb.pat;have HP:=Lib.hid (popTopQ (.arr l) c2 cs hx rfl hlen);have HB:=Lib.hid hb;have HM:=Lib.hid m1;have c2':(((w.alloc (.cells #[.pointer (some ⟨K.p,0,none⟩)] 71)).alloc (.cells #[i64 11,.string xv,i64 xl,i64 xp] 98)).alloc (.cells #[.string { data:=#[] }] 9)).cell? ⟨K.p,2,none⟩=some top:=hx.cl.cell 2;have d0:(((w.alloc (.cells #[.pointer (some ⟨K.p,0,none⟩)] 71)).alloc (.cells #[i64 11,.string xv,i64 xl,i64 xp] 98)).alloc (.cells #[.string { data:=#[] }] 9)).cell? ⟨w.heap.size,0,none⟩=some (.pointer (some ⟨K.p,0,none⟩)):=hb.b0.cell 0;clear hx hb m1;go_enter Tryz.func57,Tryz.ntmps57;go_wp2_with fail;refine HP.out.mono ?_;rintro e w5 ⟨rfl,hc,hp,m5⟩;obtain ⟨hr,mr⟩:=hp.relab (21 + cs.length) (by simp only [List.length_cons];omega);have hj:=hc.close (by omega);obtain ⟨t,u,rfl⟩:=hc.form;have m05:=(m5.mono (M':=PM) (fun x hx=>by subst hx;decide)).trans mr (fun _ h=>h);have HC:=Lib.hid (layQ hr (Nat.le_trans HB.out.hB m5.size) hs 11 xv xl xp t u hj _ (w.heap.size + 1 + 1) (HB.out.b0.mv m05 (by simp [PM])) (HB.out.b2.mv m05 (by simp [PM])));have HMM:=Lib.hid (HM.out.trans m05 (fun _ h=>h));have f1:w5.cell? ⟨w.heap.size + 1,0,none⟩=some (i64 (11:Nat)):=(HB.out.b1.mv m05 (by simp [PM])).cell 0;have f2:w5.cell? ⟨w.heap.size + 1,1,none⟩=some (.string xv):=(HB.out.b1.mv m05 (by simp [PM])).cell 1;have f3:w5.cell? ⟨w.heap.size + 1,2,none⟩=some (i64 xl):=(HB.out.b1.mv m05 (by simp [PM])).cell 2;have f4:w5.cell? ⟨w.heap.size + 1,3,none⟩=some (i64 xp):=(HB.out.b1.mv m05 (by simp [PM])).cell 3;clear hc hp m5 hr mr hj m05 c2' d0;go_wp2_with fail;refine HC.out.mono ?_;rintro e w6 ⟨rfl,lab6,h6,m6⟩;go_wp2;go_ret;exact ⟨rfl,lab6,h6,HMM.out.trans m6 (fun _ h=>h)⟩
set_option maxRecDepth 100000 in
set_option maxHeartbeats 2000000 in
theorem itemQ_bool (h:QAt B lab w K X) (hB:B≤w.heap.size) (xv:ByteArray) (xl xp:Int) (b:Bool) (hsz:xv.size≤1000000) (ha:∀ (j:Nat) (b:UInt8),xv.data.toList[j]?=some b→b.toNat < 128)
  (hw:(b=true∧trueW (Lib.toLowerA xv.data.toList)) ∨ (b=false∧falseW (Lib.toLowerA xv.data.toList))) (hs:X.Sets .leaf X') :
  Calls Tryz.prog 57 #[.pointer (some ⟨K.p,0,none⟩),.agg #[i64 (6:Nat),.string xv,i64 xl,i64 xp],.string { data:=#[] }] w fun e w'=>e=.returned .nilIface∧∃ lab',QAt B lab' w' K X'∧Mv PM w lab w' lab':=by
 obtain ⟨lab1,hb,m1⟩:=h.boxed hB 6 xv xl xp;have HBX:=Lib.hid (aI hb m1);have HW:=Lib.hid hw;have HA:=Lib.hid ha;have HS:=Lib.hid hs;clear hb m1 hw ha hs h;go_enter Tryz.func57,Tryz.ntmps57;go_wp2_with fail;refine (Tryz.strings_ToLower_ascii xv _ (by omega) HA.out).mono ?_;rintro e w2 ⟨rfl,hb2⟩;have m2:Mv (fun _=>False) (Boxed w K 6 xv xl xp) lab1 w2 _:=Mv.below hb2 lab1 7;have hb:=HBX.out.1;have d0:=(hb.b0.mv m2 (fun h=>h));have d1:=(hb.b1.mv m2 (fun h=>h));have q0:w2.cell? ⟨w.heap.size + 1,0,none⟩=some (i64 (6:Nat)):=d1.cell 0;have q1:w2.cell? ⟨w.heap.size + 1,1,none⟩=some (.string xv):=d1.cell 1;have q2:w2.cell? ⟨w.heap.size + 1,2,none⟩=some (i64 xl):=d1.cell 2;have q3:w2.cell? ⟨w.heap.size + 1,3,none⟩=some (i64 xp):=d1.cell 3;have HC:=Lib.hid (layQ (hb.pat.mv m2 (fun _ _ h=>h)) (Nat.le_trans hb.hB hb2.size) HS.out 6 xv xl xp 4 (.bool b) (leafQ _ (by decide)) _ (w.heap.size + 1 + 1) d0 (hb.b2.mv m2 (fun h=>h)));have HM:=Lib.hid (HBX.out.2.trans (m2.mono (M':=PM) (fun _ h=>h.elim)) (fun _ h=>h));have hw:=HW.out;clear hb2 m2 hb d0 d1;rcases hw with ⟨rfl,hw⟩ | ⟨rfl,hw⟩
 all_goals rcases hw with hw | hw | hw
 all_goals rw [hw]
 all_goals go_wp2_with fail
 all_goals refine HC.out.mono ?_
 all_goals rintro e w6 ⟨rfl,lab6,h6,m6⟩
 all_goals go_wp2
 all_goals go_ret
 all_goals exact ⟨rfl,lab6,h6,HM.out.trans m6 (fun _ h=>h)⟩
set_option maxRecDepth 100000 in
set_option maxHeartbeats 2000000 in
theorem itemQ_num (h:QAt B lab w K X) (hB:B≤w.heap.size) (xv:ByteArray) (xl xp:Int) (f:Nat) (hg:FltGives f xv) (hs:X.Sets .leaf X') :
  Calls Tryz.prog 57 #[.pointer (some ⟨K.p,0,none⟩),.agg #[i64 (8:Nat),.string xv,i64 xl,i64 xp],.string { data:=#[] }] w fun e w'=>e=.returned .nilIface∧∃ lab',QAt B lab' w' K X'∧Mv PM w lab w' lab':=by
 obtain ⟨lab1,hb,m1⟩:=h.boxed hB 8 xv xl xp;have HBX:=Lib.hid (aI hb m1);have HG:=Lib.hid hg;have HS:=Lib.hid hs;clear hb m1 hg hs h;go_enter Tryz.func57,Tryz.ntmps57;go_wp2_with fail;refine (HG.out _).mono ?_;rintro e w2 ⟨rfl,hb2⟩;have m2:Mv (fun _=>False) (Boxed w K 8 xv xl xp) lab1 w2 _:=Mv.below hb2 lab1 7;have hb:=HBX.out.1;have d0:=(hb.b0.mv m2 (fun h=>h));have d1:=(hb.b1.mv m2 (fun h=>h));have q0:w2.cell? ⟨w.heap.size + 1,0,none⟩=some (i64 (8:Nat)):=d1.cell 0;have q1:w2.cell? ⟨w.heap.size + 1,1,none⟩=some (.string xv):=d1.cell 1;have q2:w2.cell? ⟨w.heap.size + 1,2,none⟩=some (i64 xl):=d1.cell 2;have q3:w2.cell? ⟨w.heap.size + 1,3,none⟩=some (i64 xp):=d1.cell 3;have HC:=Lib.hid (layQ (hb.pat.mv m2 (fun _ _ h=>h)) (Nat.le_trans hb.hB hb2.size) HS.out 8 xv xl xp 22 (.float .f64 f) (leafQ _ (by decide)) _ (w.heap.size + 1 + 1) d0 (hb.b2.mv m2 (fun h=>h)));have HM:=Lib.hid (HBX.out.2.trans (m2.mono (M':=PM) (fun _ h=>h.elim)) (fun _ h=>h));clear hb2 m2 hb d0 d1;go_wp2_with fail;refine HC.out.mono ?_;rintro e w6 ⟨rfl,lab6,h6,m6⟩;go_wp2;go_ret;exact ⟨rfl,lab6,h6,HM.out.trans m6 (fun _ h=>h)⟩
end
end Go.Cf
