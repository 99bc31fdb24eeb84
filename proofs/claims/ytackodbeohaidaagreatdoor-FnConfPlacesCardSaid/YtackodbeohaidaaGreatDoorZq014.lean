/-
  Texts joined: Ee.
-/
import Derived.Test.YtackodbeohaidaaGreatDoorZq013
namespace Go.Cf
open Go.RowKit Go.Conc Go.Proofs
attribute [local go_sem ↓] appX_eq
attribute [local go_sem] run_store_flt
section
variable {lab lab1:Lab} {w w1:World} {b:Nat} {W W1 W2:CW} {T T2:ByteArray}
def EntI (lab:Lab) (w:World) (b s:Nat) (bx:Array Value) (W:CW) (kj:List JV) (ks:List ByteArray) (l:List JV) (path:ByteArray) (ln:Nat) (pl:Option Nat) (P0:Pls) (top:Bool) (q:Nat) (wr:World):Prop :=
 ∃ Wq kq Tq Uq Pq P' labq,WAt labq wr b Wq∧WroteE W Wq Tq Uq∧VarOk Wq kq∧Wq.known.length≤q + W.known.length∧(top=false→WroteU W Wq Tq Uq∧kq=kj)∧Tq.size≤200 * wts (l.take q)∧Uq.length≤wts (l.take q) ∧
  (Wq.bad=false→GE top (envW W.known kj W.inner) path ln (ks.take q) (l.take q) Tq Uq Pq (envW Wq.known kq Wq.inner)∧(ks.take q).Pairwise ltB∧P'=Pq∧(top=true→∀ k ∈ Wq.known,k ∈ ks.take q)∧(q ≠ 0→Wq.text.size≤20000)) ∧
  PlO labq wr pl (P0 ++ P')∧P'.length≤wts (l.take q)∧Cl 45 labq wr s bx 26∧Mv (EMg top pl) w lab wr labq
theorem app_place {pv:Value} {P:Pls} {x:ByteArray} {ln g:Nat} {fr:Nat × Nat} (hr:Rw 0 46 lab w 60 4 pv P.length (flatP P)) (hg:w.heap[g]?=some (.cells #[.string x,.int .i64 (ln:Int),.int .i64 0,.bool false] 60 fr)) (hmax:P.length≤1000000) :
  ∃ gg C w',(AppX #[31,31] 31 #[pv,.slice (some ⟨g,0,none⟩) 1 1]).run Tryz.prog w=.ok (.slice (some ⟨gg,0,none⟩) (P.length + 1) C) w'∧Rw 0 46 (lab.ext w.heap.size 46) w' 60 4 (.slice (some ⟨gg,0,none⟩) (P.length + 1) C) (P ++ [(x,ln)]).length (flatP (P ++ [(x,ln)]))∧Mv (·=46) w lab w' (lab.ext w.heap.size 46):=by
 obtain ⟨i0,hi0,hz0,hz1,hz2⟩:=info_parts info60;obtain ⟨gg,C,w',hrun,hown,hgr,hat,hlt⟩:=run_append_lies (P:=Tryz.prog) w 31 31 0 60 i0 _ 4 40 Tryz.underlying31 hi0 hz0 hz1 hz2 rfl (by omega) pv P.length (flatP P) hr.1 ⟨g,0,none⟩ 1 1 [.string x,.int .i64 (ln:Int),.int .i64 0,.bool false] (by rfl) (World.news_of_block (cs:=#[.string x,.int .i64 (ln:Int),.int .i64 0,.bool false]) (t:=60) (fr:=fr) hg) (by simp;exact ⟨rfl,rfl,rfl,rfl⟩) (by omega) (by unfold maxLen;omega) (by omega) (Nat.zero_le _) w.heap.size rfl;rw [appX_eq] at hrun;refine ⟨gg,C,w',hrun,?_,Mv.grown hgr lab 46 (fun k hk=>hr.2 k hk)⟩;have e:flatP (P ++ [(x,ln)])=flatP P ++ [.string x,.int .i64 (ln:Int),.int .i64 0,.bool false]:=by unfold flatP;simp
 rw [e,List.length_append];refine ⟨hown,fun y hy=>?_⟩;simp only [Value.ownBlock,Option.some.injEq] at hy;subst hy;rcases hat with e | e
 ·have:=hr.own_lab gg e;rw [Lab.ext_lt this.2.2];exact this.1
 ·rw [e];exact Lab.ext_ge (Nat.le_refl _)
theorem plV_neq (pl:Option Nat) (w:World):(binOp .neq 58 (plV pl) (.pointer none)).run Tryz.prog w=.ok (.bool pl.isSome) w:=by
 cases pl <;> simp [plV,go_sem]
theorem plV_guard (pl:Option Nat) (n:Nat) (w:World):(eqGuard .neq 58 (.tmp n) (.const (.pointer none)) (plV pl) (.pointer none)).run Tryz.prog w=.ok () w:=by
 cases pl <;> simp [plV,eqGuard,go_sem]
theorem less_before:∀ a b:List UInt8,Op.bytesLess a b=bytesBefore a b
 | [],[]=>rfl
 | _ :: _,[]=>rfl
 | [],_ :: _=>rfl
 | a :: r,b :: s=>by simp only [Op.bytesLess,bytesBefore,less_before r s]
theorem EMg0 (top:Bool) (pl:Option Nat):¬ EMg top pl 0:=by unfold EMg;omega
theorem EMg45 (top:Bool) (pl:Option Nat):¬ EMg top pl 45:=by unfold EMg;omega
theorem app_nil' (a:ByteArray):a ++ (⟨#[]⟩:ByteArray)=a:=ByteArray.append_empty
mutual
theorem GV.places {env:List (ByteArray × JV)} {li:Bool}:∀ (j:JV) {path:ByteArray} {ln:Nat} {nl:Bool} {T:ByteArray} {U:List ByteArray} {P:Pls},GV env li path ln j nl T U P→P.length≤wts j.kids
 | .int v,_,_,_,_,_,_,h=>by simp only [GV] at h;rw [h.2.1];exact Nat.zero_le _
 | .num v,_,_,_,_,_,_,h=>by simp only [GV] at h;rw [h.2.1];exact Nat.zero_le _
 | .tr v,_,_,_,_,_,_,h=>by simp only [GV] at h;rw [h.2.1];exact Nat.zero_le _
 | .txt v,_,_,_,_,_,_,h=>by simp only [GV] at h;rw [h.1];exact Nat.zero_le _
 | .arr l,_,_,_,_,_,_,h=>by simp only [GV] at h;rw [h.2.1];exact Nat.zero_le _
 | .map ks l,_,_,_,_,_,_,h=>by
  simp only [GV] at h;obtain ⟨-,a,Es,hE,-⟩:=h;exact GE.places l hE
theorem GE.places {top:Bool}:∀ (l:List JV) {env envF:List (ByteArray × JV)} {path:ByteArray} {ln:Nat} {ks:List ByteArray} {T:ByteArray} {U:List ByteArray} {P:Pls},GE top env path ln ks l T U P envF→P.length≤wts l
 | [],_,_,_,_,_,_,_,_,h=>by simp only [GE] at h;rw [h.2.2.2.1];exact Nat.zero_le _
 | j :: r,_,_,_,_,_,_,_,_,h=>by
  simp only [GE] at h;obtain ⟨env1,k0,ks',kb0,Kt0,q0,nl0,V0,e0,R,Ua,Ub,Pa,Pb,-,-,-,-,-,a5,-,-,-,-,-,hr,-,hP,-⟩:=h;have h1:=GV.places j a5;have h2:=GE.places r hr;rw [hP];have h3:=wt_eq j;simp only [List.length_cons,List.length_append,wts];omega
end
theorem envW_snoc {kn inner:List ByteArray} {kq:List JV} (hl:kn.length=kq.length) (k:ByteArray) (x:JV):∀ y ∈ envW (kn ++ [k]) (kq ++ [x]) inner,y ∈ envW kn kq inner ∨ y=(k,x):=by
 intro y hy;unfold envW at *;rw [List.zip_append hl,List.filter_append,List.mem_append] at hy;rcases hy with hy | hy
 ·exact .inl hy
 ·right
  have:=(List.mem_filter.1 hy).1;simpa using this
theorem EntI.next {w wr:World} {lab labr:Lab} {b s:Nat} {bx:Array Value} {W Wq W7 W9 W10 W11 W12:CW} {kj kq k11:List JV} {ks:List ByteArray} {l:List JV} {path k:ByteArray} {ln:Nat} {pl:Option Nat} {P0 Pq P' P1:Pls} {top xb:Bool} {q kb qs:Nat} {Tq Kt V E:ByteArray} {Uq U1:List ByteArray} {x:JV}
  (hk:ks[q]?=some k) (hx:l[q]?=some x) (hln:W.line=ln + 1) (hqs:qs < 6) (hk20:k.size≤20) (hbl:(blankT kb).size≤20) (hksz:(Kt ++ sepT qs).size≤k.size + 5) (hE8:E.size≤8)
  (hq1:WroteE W Wq Tq Uq) (hkn:Wq.known.length≤q + W.known.length) (htf:top=false→WroteU W Wq Tq Uq∧kq=kj) (hT:Tq.size≤200 * wts (l.take q)) (hU:Uq.length≤wts (l.take q)) (hpn:P'.length≤wts (l.take q)) (hvq:Wq.known.length=kq.length)
  (hbd:Wq.bad=false→GE top (envW W.known kj W.inner) path ln (ks.take q) (l.take q) Tq Uq Pq (envW Wq.known kq Wq.inner)∧(ks.take q).Pairwise ltB∧P'=Pq∧(top=true→∀ k ∈ Wq.known,k ∈ ks.take q)∧(q ≠ 0→Wq.text.size≤20000))
  (h6:Wrote Wq (Wq.flag xb) ⟨#[]⟩) (hxb:xb=false→Wq.bad=false∧(∀ kp,q ≠ 0→ks[q - 1]?=some kp→ltB kp k)) (h7:Wrote (Wq.flag xb) W7 (blankT kb)) (h9:Wrote W7 W9 (Kt ++ sepT qs))
  (hb9:W9.bad=false→KeySp k Kt∧0 < k.size∧noKw k) (h10:WroteU W9 W10 V U1) (hV:V.size≤200 * wt x) (hU1:U1.length≤wt x) (hP1:P1.length≤wts x.kids)
  (hb10:W10.bad=false→∃ nl V' P1',V=V' ++ nlS nl∧GV (envW W9.known kq W9.inner) false (sla path k) (ln + nlT Tq + nlT (blankT kb ++ (Kt ++ sepT qs))) x nl V' U1 P1'∧(pl.isSome=true→P1=P1'))
  (h11:Same W10 W11) (hi11:W11.inner=W10.inner) (hv11:VarOk W11 k11) (hk11:(W11.known=W10.known∧k11=kq∧W11.nv=W10.nv∧W11.vals=W10.vals) ∨ (top=true∧W11.known=W10.known ++ [k]∧k11=kq ++ [x])) (h12:Wrote W11 W12 ⟨#[]⟩)
  (hin:top=false→k ∈ W.inner) (hVE:∀ nl V',V=V' ++ nlS nl→∃ e,e < 7∧(nl=true→e=3)∧V ++ E=V' ++ endR e)
  (hw:WAt labr wr b (W12.put E)) (hpl:PlO labr wr pl (P0 ++ P' ++ [(sla path k,W7.line)] ++ P1)) (hbx:Cl 45 labr wr s bx 26) (m:Mv (EMg top pl) w lab wr labr):EntI lab w b s bx W kj ks l path ln pl P0 top (q + 1) wr:=by
 have h89:Wrote Wq W9 (blankT kb ++ (Kt ++ sepT qs)):=by
  have:=(h6.trans h7).trans h9;rw [empty_app] at this;exact this
 have hput:=Wrote.put W12 E;have hE11:WroteE W10 W11 ⟨#[]⟩ []:=⟨by rw [app_nil'];exact h11.text,fun e=>by rw [← h11.bad];exact e,h11.line,by rw [List.append_nil];exact h11.used,hi11,fun _ h=>nomatch h⟩;have hEall:WroteE W (W12.put E) (Tq ++ (blankT kb ++ ((Kt ++ sepT qs) ++ (V ++ E)))) (Uq ++ U1):=by
  have:=((((hq1.trans h89.toU.toE).trans h10.toE).trans hE11).trans h12.toU.toE).trans hput.toU.toE;simp only [app_nil',List.append_nil,ByteArray.append_assoc] at this ⊢;exact this
 have hwt:=wts_take hx;have hwx:=wt_eq x;have hsz:(Tq ++ (blankT kb ++ ((Kt ++ sepT qs) ++ (V ++ E)))).size=Tq.size + ((blankT kb).size + ((Kt ++ sepT qs).size + (V.size + E.size))):=by
  rw [bsa,bsa,bsa (a:=Kt ++ sepT qs),bsa (a:=V)]
 have hkf:(W12.put E).known=W11.known:=(hput.known.trans h12.known);have hif:(W12.put E).inner=W11.inner:=(hput.inner.trans h12.inner);have hvf:VarOk (W12.put E) k11:=hv11.same hkf (hput.nv.trans h12.nv) (hput.vals.trans h12.vals);have hk10:W10.known=Wq.known:=h10.known.trans h89.known;have hi10:W10.inner=Wq.inner:=h10.inner.trans h89.inner;have hkl:(W12.put E).known.length≤q + 1 + W.known.length:=by
  rw [hkf];rcases hk11 with ⟨e,-⟩ | ⟨-,e,-⟩
  ·rw [e,hk10];omega
  ·rw [e,hk10,List.length_append];simp only [List.length_cons,List.length_nil];omega
 have htff:top=false→WroteU W (W12.put E) (Tq ++ (blankT kb ++ ((Kt ++ sepT qs) ++ (V ++ E)))) (Uq ++ U1)∧k11=kj:=fun e=>by
  rcases hk11 with ⟨e1,e2,e3,e4⟩ | ⟨e1,-⟩
  ·have hU11:WroteU W10 W11 ⟨#[]⟩ []:=⟨by rw [app_nil'];exact h11.text,fun e=>by rw [← h11.bad];exact e,h11.line,e1,e3,e4,by rw [List.append_nil];exact h11.used,hi11,fun _ h=>nomatch h⟩;have:=(((((htf e).1.trans h89.toU).trans h10).trans hU11).trans h12.toU).trans hput.toU;simp only [app_nil',List.append_nil,ByteArray.append_assoc] at this ⊢;exact ⟨this,e2.trans (htf e).2⟩
  ·rw [e] at e1;cases e1
 have hTs:(Tq ++ (blankT kb ++ ((Kt ++ sepT qs) ++ (V ++ E)))).size≤200 * wts (l.take (q + 1)):=by omega
 have hUs:(Uq ++ U1).length≤wts (l.take (q + 1)):=by rw [List.length_append];omega
 cases hbf:(W12.put E).bad with
 | true =>
  refine ⟨_,k11,_,_,Pq,P' ++ ((sla path k,W7.line) :: P1),labr,hw,hEall,hvf,hkl,htff,hTs,hUs,(fun e=>by rw [hbf] at e;cases e),?_,?_,hbx,m⟩
  ·have e1:P0 ++ (P' ++ (sla path k,W7.line) :: P1)=P0 ++ P' ++ [(sla path k,W7.line)] ++ P1:=by simp
   rw [e1];exact hpl
  ·simp only [List.length_append,List.length_cons];omega
 | false =>
  have b11:W11.bad=false:=h12.bad (hput.bad hbf);have b10:W10.bad=false:=by rw [← h11.bad];exact b11
  have b9:=h10.bad b10;obtain ⟨hKs,-,hnk⟩:=hb9 b9;have bf:xb=false:=h7.bad (h9.bad b9)
  obtain ⟨bq,hlt⟩:=hxb bf;obtain ⟨g1,g2,g3,g4,-⟩:=hbd bq;obtain ⟨nl,V',P1',hVV,hG,hPP⟩:=hb10 b10;obtain ⟨e,he,hne,hVe⟩:=hVE nl V' hVV;have hasc:(ks.take q ++ [k]).Pairwise ltB:=asc_snoc g2 (fun z hz=>by
   by_cases hq0:q=0
   ·subst hq0;simp at hz
   ·have hqlt:q < ks.length:=by
     rcases Nat.lt_or_ge q ks.length with h | h
     ·exact h
     ·rw [List.getElem?_eq_none_iff.2 h] at hk;cases hk
    refine hlt z hq0 ?_;rw [List.getLast?_eq_getElem?,List.length_take,Nat.min_eq_left (by omega),List.getElem?_take,if_pos (by omega)] at hz
    exact hz)
  have htk:ks.take (q + 1)=ks.take q ++ [k]:=by rw [List.take_add_one,hk];rfl
  have htl:l.take (q + 1)=l.take q ++ [x]:=by rw [List.take_add_one,hx];rfl
  have hdis:∀ y ∈ envW Wq.known kq Wq.inner,y.1 ≠ k:=fun y hy=>by
   unfold envW at hy;obtain ⟨hz,hf⟩:=List.mem_filter.1 hy
   cases htop:top with
   | false =>
    rintro rfl;have h1:=hin htop;rw [hq1.inner,inB_true h1] at hf;cases hf
   | true =>
    have h1:y.1 ∈ Wq.known:=(List.of_mem_zip (a:=y.1) (b:=y.2) hz).1;have h2:=g4 htop _ h1;exact ((List.pairwise_append.1 hasc).2.2 _ h2 k (by simp)).ne
  have h9k:W9.known=Wq.known:=h89.known;have h9i:W9.inner=Wq.inner:=h89.inner
  rw [h9k,h9i] at hG;have hsn:=GE.snoc (e:=e) (env':=envW (W12.put E).known k11 (W12.put E).inner) hKs hnk (by omega) hqs he hne hdis (fun ht=>by
    rcases hk11 with ⟨e1,e2,-⟩ | ⟨e1,-⟩
    ·rw [hkf,hif,hi11,hi10,e1,hk10,e2]
    ·rw [ht] at e1;cases e1) (fun y hy=>by
    rcases hk11 with ⟨e1,e2,-⟩ | ⟨-,e1,e2⟩
    ·rw [hkf,hif,hi11,hi10,e1,hk10,e2] at hy;exact .inl hy
    ·rw [hkf,hif,hi11,hi10,e1,hk10,e2] at hy;exact envW_snoc hvq k x y hy) (l.take q) g1 hG
  rw [← hVe] at hsn;have hline:W7.line=ln + nlT Tq + 1 + nlT (blankT kb):=by
   rw [h7.line,h6.line,hq1.line,hln];have e0:nlc (⟨#[]⟩:ByteArray) (⟨#[]⟩:ByteArray).size=0:=rfl;unfold nlT;omega
  rw [← hline] at hsn;have hpl':=GV.places x hG;refine ⟨_,k11,_,_,Pq ++ ((sla path k,W7.line) :: P1'),P' ++ ((sla path k,W7.line) :: P1'),labr,hw,hEall,hvf,hkl,htff,hTs,hUs,(fun _=>⟨?_,?_,by rw [g3],?_,fun _=>?_⟩),?_,?_,hbx,m⟩
  ·rw [htk,htl];exact hsn
  ·rw [htk];exact hasc
  ·intro ht y hy;rw [htk];rw [hkf] at hy;rcases hk11 with ⟨e1,-⟩ | ⟨-,e1,-⟩
   ·rw [e1,hk10] at hy;exact List.mem_append_left _ (g4 ht y hy)
   ·rw [e1,hk10] at hy;rcases List.mem_append.1 hy with hy | hy
    ·exact List.mem_append_left _ (g4 ht y hy)
    ·exact List.mem_append_right _ hy
  ·have hb:=hbf;simp only [CW.put,Bool.or_eq_false_iff,decide_eq_false_iff_not] at hb;show (W12.text ++ E).size≤_;omega
  ·intro pc hpc;have e1:P0 ++ (P' ++ (sla path k,W7.line) :: P1')=P0 ++ P' ++ [(sla path k,W7.line)] ++ P1:=by
    rw [hPP (by rw [hpc];rfl)];simp
   rw [e1];exact hpl pc hpc
  ·simp only [List.length_append,List.length_cons];omega
theorem endVE0 (V:ByteArray):∀ nl V',V=V' ++ nlS nl→∃ e,e < 7∧(nl=true→e=3)∧V ++ endS 0=V' ++ endR e:=fun nl V' h=>by
 cases nl with
 | false =>
  have h':V=V' ++ (⟨#[]⟩:ByteArray):=h;rw [app_nil'] at h';exact ⟨0,by decide,(fun e=>by cases e),by rw [h'];rfl⟩
 | true =>
  have h':V=V' ++ (⟨#[10]⟩:ByteArray):=h;exact ⟨3,by decide,fun _=>rfl,by rw [h',ByteArray.append_assoc];rfl⟩
theorem endVE (a:Nat) (ha:a < 7) (V:ByteArray) (h0:0 < V.size→byteAt V (V.size - 1) ≠ 10):∀ nl V',V=V' ++ nlS nl→∃ e,e < 7∧(nl=true→e=3)∧V ++ endS a=V' ++ endR e:=fun nl V' h=>by
 cases nl with
 | false =>
  have h':V=V' ++ (⟨#[]⟩:ByteArray):=h;rw [app_nil'] at h';refine ⟨a,ha,(fun e=>by cases e),?_⟩;rw [h']
  match a,ha with
  | 0,_=>rfl
  | 1,_=>rfl
  | 2,_=>rfl
  | 3,_=>rfl
  | 4,_=>rfl
  | 5,_=>rfl
  | 6,_=>rfl
 | true =>
  exfalso
  have h':V=V' ++ (⟨#[10]⟩:ByteArray):=h;have hs:V.size=V'.size + 1:=by rw [h',bsa];rfl
  refine h0 (by omega) ?_;rw [show V.size - 1=V'.size + 0 from by omega,h',byteAt_app_right];rfl
theorem wrapS (n:Nat) (h:n≤1000000000):wrap64 (n:Int)=(n:Int)∧IntKind.i64.wrap (n:Int)=(n:Int):=⟨by rw [wrap64];omega,Lib.wrap_i64_small _ (by omega)⟩
theorem wrapP (n:Nat) (h:n≤1000000000):IntKind.i64.wrap ((n:Int) + 1)=((n + 1:Nat):Int):=by
 rw [show (n:Int) + 1=((n + 1:Nat):Int) from by omega];exact Lib.wrap_i64_small _ (by omega)
theorem wrapM (n m:Nat) (h:n≤1000000000) (e:n=m + 1):wrap64 ((n:Int) - 1)=(m:Int)∧IntKind.i64.wrap ((n:Int) - 1)=(m:Int):=by
 rw [show (n:Int) - 1=(m:Int) from by omega];exact wrapS m (by omega)
end
end Go.Cf
