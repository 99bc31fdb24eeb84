/-
  Texts joined: Nu Wx Li Es18 Ed.
-/
import Derived.Test.YtackodbeohaidaaGreatDoorZq010
import Derived.Test.YtackodbeohaidaaGreatDoorZq012
namespace Go.Cf
open Go.RowKit Go.Conc Go.Proofs
attribute [local go_sem] run_store_flt
section
variable {lab lab1:Lab} {w w1:World} {b:Nat} {W W1 W2:CW} {T T2:ByteArray}
def frRow:Array Value:=#[.string ⟨#[48,48,48]⟩,.string ⟨#[49,50,53]⟩,.string ⟨#[50,53,48]⟩,.string ⟨#[51,55,53]⟩,.string ⟨#[53,48,48]⟩,.string ⟨#[54,50,53]⟩,.string ⟨#[55,53,48]⟩,.string ⟨#[56,55,53]⟩]
theorem fr_get (r:Nat) (h:r < 8):frRow[r]?=some (.string (frT r)):=by
 match r,h with
 | 0,_ | 1,_ | 2,_ | 3,_ | 4,_ | 5,_ | 6,_ | 7,_=>rfl
def CNu (b a q r:Nat):Nat→Value→Lab→World→Prop
 | 0,v,_,_=>v=.pointer (some ⟨b,0,none⟩)
 | 1,v,_,_=>v=.int .i64 a
 | 2,v,_,_=>v=.int .i64 (q:Int)
 | 3,v,_,_=>v=.string (decB (q))
 | 4,v,_,_=>v=.string (decB (q) ++ ({ data:=#[46] }:ByteArray))
 | 5,v,lab,w=>∃ g,v=.slice (some ⟨g,0,none⟩) 8 8∧Cl 45 lab w g frRow 9
 | 6,v,_,_=>v=.int .i64 a
 | 7,v,_,_=>v=.int .i64 (r:Int)
 | 8,v,lab,w=>∃ g,v=.pointer (some ⟨g,r,none⟩)∧Cl 45 lab w g frRow 9
 | 9,v,_,_=>v=.string (frT (r))
 | 10,v,_,_=>v=.string (decB (q) ++ ({ data:=#[46] }:ByteArray) ++ frT (r))
 | _,_,_,_=>True
theorem CNu.mv {a q r k:Nat} {v:Value} {w':World} {lab':Lab} (h:CNu b a q r k v lab w) (m:Mv (fun _=>False) w lab w' lab'):CNu b a q r k v lab' w':=by
 match k,h with
 | 0,h | 1,h | 2,h | 3,h | 4,h | 6,h | 7,h | 9,h | 10,h=>exact h
 | 5,h=>obtain ⟨g,h1,h2⟩:=h;exact ⟨g,h1,h2.mv m (fun h=>h)⟩
 | 8,h=>obtain ⟨g,h1,h2⟩:=h;exact ⟨g,h1,h2.mv m (fun h=>h)⟩
 | k + 11,_=>trivial
def NumbP (lab:Lab) (w:World) (b:Nat) (W:CW) (f:Nat) (e:Ending) (w':World):Prop:=e=.returned (.tuple #[])∧∃ W' T lab',WAt lab' w' b W'∧Wrote W W' T∧T.size≤30∧(W'.bad=false→NumT f T)∧Mv (·=40) w lab w' lab'
def EiOk (f:Nat) (n:Int):Prop:=-1000000000 < n∧n < 1000000000∧dFin (FloatKind.f64.format.read f)∧dU (FloatKind.f64.format.read f)=n * 2 ^ 1071
theorem frT_size (r:Nat) (h:r < 8):(frT r).size=3:=by
 match r,h with
 | 0,_ | 1,_ | 2,_ | 3,_ | 4,_ | 5,_ | 6,_ | 7,_=>rfl
set_option maxRecDepth 100000 in
set_option maxHeartbeats 4000000 in
theorem number_c (h:WAt lab w b W) (f:Nat) (hf:FloatKind.f64.format.order f f=some .eq) (ht:W.text.size≤900000000) (hl:W.line≤900000000):Calls Tryz.prog 44 #[.pointer (some ⟨b,0,none⟩),.float .f64 f] w (NumbP lab w b W f):=by
 obtain ⟨e8,h8,hcase⟩:=mul8 hf;have hmul:∀ w,(binOp .mul 22 (.float .f64 f) (.float .f64 4620693217682128896)).run Tryz.prog w=.ok (.float .f64 e8) w:=fun w=>run_float_arith w .mul 22 .f64 f _ e8 h8
 have HM:=Lib.hid (Mv.refl (fun x=>x=40) w lab);have HK:=Lib.hid h;have HC:=Lib.hid hcase;clear h8 hcase hf;go_enter Tryz.func44,Tryz.ntmps44;go_upto_region 1 with fail
 go_cut [4] from 6 to 34 (fun s4 wx=>s4=.float .f64 e8∧∃ x,WAt lab wx b (W.flag x)∧Mv (·=40) w lab wx lab∧(x=false→W.bad=false∧∃ n,floatToIntVal .f64 e8 .i64=some n∧EiOk f n))
 case first =>
  have c3:=h.c3;have f3:=h.f3
  cases hb:W.bad with
  | true =>
   rw [hb] at c3;go_wp2_with fail;go_meet
   case rel=>exact ⟨rfl,true,(h.flag true).1,(h.flag true).2,fun h=>by cases h⟩
  | false =>
   rw [hb] at c3
   cases hg:(FloatKind.f64.format.order e8 13965043853221167104 == some .gt) with
   | false =>
    go_wp2_with fail
    go_meet
    case rel=>exact ⟨rfl,true,(h.flag true).1,(h.flag true).2,fun h=>by cases h⟩
   | true =>
    cases hlt:(FloatKind.f64.format.order e8 4741671816366391296 == some .lt) with
    | false =>
     go_wp2_with fail
     go_meet
     case rel=>exact ⟨rfl,true,(h.flag true).1,(h.flag true).2,fun h=>by cases h⟩
    | true =>
     have hfin:dFin (Ieee.double.read f)∧dFin (Ieee.double.read e8)∧dU (Ieee.double.read e8)=8 * dU (Ieee.double.read f):=by
      rcases HC.out with h | ⟨s,h⟩
      ·exact h
      ·exfalso
       rw [beq_iff_eq] at hg hlt;have e1:(Ieee.double.read e8).order (Ieee.double.read 13965043853221167104)=some .gt:=hg;have e2:(Ieee.double.read e8).order (Ieee.double.read 4741671816366391296)=some .lt:=hlt;rw [h,readM] at e1;rw [h,readP] at e2;cases s
       ·cases e2
       ·cases e1
     have hcm:dFin (Ieee.double.read 13965043853221167104):=by rw [readM];show (-1074:Int)≤-23;omega
     have hcp:dFin (Ieee.double.read 4741671816366391296):=by rw [readP];show (-1074:Int)≤-23;omega
     have b0:=order_gt hfin.2.1 hcm (by rw [beq_iff_eq] at hg;exact hg);have b1:=order_lt hfin.2.1 hcp (by rw [beq_iff_eq] at hlt;exact hlt);rw [dUM] at b0;rw [dUP] at b1;obtain ⟨n,hn,n0,n1⟩:=toInt_small hfin.2.1 b0 b1;have hci:∀ w,(convert 22 3 (.float .f64 e8)).run Tryz.prog w=.ok (.int .i64 n) w:=fun w=>run_convert_float_int w 22 3 .f64 .i64 e8 n (by rw [Tryz.underlying22];rfl) Tryz.underlying3 hn
     have hx:∀ x:Bool,(FloatKind.f64.format.order e8 (floatOfInt .f64 n) != some .eq)=x→(x=false→W.bad=false∧∃ n,floatToIntVal .f64 e8 .i64=some n∧EiOk f n):=by
      rintro x hx rfl;refine ⟨hb,n,hn,n0,n1,hfin.1,?_⟩;have hnb:FloatKind.f64.format.order e8 (floatOfInt .f64 n)=some .eq:=by simpa using hx
      have hdi:=dU_int n0 n1;have he:dU (Ieee.double.read e8)=dU (Ieee.double.read (floatOfInt .f64 n)):=(order_eq hfin.2.1 hdi.1).1 hnb;rw [hfin.2.2,hdi.2,show (2:Int) ^ 1074=2 ^ 1071 * 8 from by rw [show (8:Int)=2 ^ 3 from rfl,← Int.pow_add]] at he;show dU (Ieee.double.read f)=n * 2 ^ 1071;generalize (2:Int) ^ 1071=z at he ⊢;rw [← Int.mul_assoc] at he;generalize n * z=y at he ⊢;omega
     have HX:=Lib.hid hx;clear hx b0 b1 n0 n1 hfin hcm hcp hn
     cases hq:(FloatKind.f64.format.order e8 (floatOfInt .f64 n) != some .eq) with
     | true =>
      go_wp2_with fail
      go_meet
      case rel=>exact ⟨rfl,true,(h.flag true).1,(h.flag true).2,fun h=>by cases h⟩
     | false =>
      go_wp2_with fail
      go_meet
      case rel=>exact ⟨rfl,false,(h.flag false).1,(h.flag false).2,HX.out false hq⟩
 case rest =>
  obtain ⟨rfl,x,h1,m1,hx⟩:=hcut;have c3:=h1.c3
  cases x with
  | true =>
   have hfin:NumbP lab w b W f (.returned (.tuple #[])) wc:=⟨rfl,_,⟨#[]⟩,_,h1,Wrote.flag W true (fun e=>by cases e),by decide,(fun e=>by cases e),m1⟩;have HF:=Lib.hid hfin;clear hfin h1 m1 hx h HC HM;go_wp2;refine bodyPost_ret (results_none rfl _ _ _) rfl ?_;exact HF.out
  | false =>
   obtain ⟨hb,n,hn,hei⟩:=hx rfl;have hci:∀ w,(convert 22 3 (.float .f64 e8)).run Tryz.prog w=.ok (.int .i64 n) w:=fun w=>run_convert_float_int w 22 3 .f64 .i64 e8 n (by rw [Tryz.underlying22];rfl) Tryz.underlying3 hn
   have hn0:=hei.1;have hn1:=hei.2.1;have HE:=Lib.hid (aI hei (aI m1 (Wrote.flag W false (fun _=>hb))));clear hn hx hei hmul HC HM h m1;go_upto_region 4 with fail
   go_upto_if 38 with fail
   go_cut [5] from 38 to 43 (fun s5 wx=>∃ (a:Nat) (W2:CW) (sg:ByteArray),s5=.int .i64 a∧a=n.natAbs∧sg=(if n < 0 then ⟨#[45]⟩ else ⟨#[]⟩)∧WAt lab wx b W2∧Wrote W W2 sg∧Mv (·=40) w lab wx lab)
   case first =>
    by_cases hneg:n < 0
    ·have d1:decide (n < 0)=true:=decide_eq_true hneg;have hng:-n=((n.natAbs:Nat):Int):=by omega
     have HNG:=Lib.hid hneg;go_wp2_with fail;refine (put_c h1 ⟨#[45]⟩ (by decide) (by show W.text.size≤_;omega) (by show W.line≤_;omega)).mono ?_;rintro e w3 ⟨rfl,h3,m3⟩;have hw3:=HE.out.2.2.trans (Wrote.put (W.flag false) ⟨#[45]⟩);rw [empty_app] at hw3;have HW3:=Lib.hid (aI h3 (aI hw3 (HE.out.2.1.trans m3 (fun _ h=>h))));clear h3 hw3 m3;go_wp2_with fail;go_meet
     case rel=>exact ⟨n.natAbs,_,⟨#[45]⟩,rfl,rfl,by rw [if_pos HNG.out],HW3.out.1,HW3.out.2.1,HW3.out.2.2⟩
    ·have d1:decide (n < 0)=false:=decide_eq_false hneg;go_wp2_with fail;go_meet
     case rel=>exact ⟨n.natAbs,W.flag false,⟨#[]⟩,by rw [show ((n.natAbs:Nat):Int)=n from by omega],rfl,by rw [if_neg (by omega)],h1,HE.out.2.2,HE.out.2.1⟩
   case rest =>
    obtain ⟨a,W2,sg,rfl,ha,hsg,h2,hw2,m2⟩:=hcut;have ha9:a < 1000000000:=by omega
    have hsz2:=hw2.size;have hln2:=hw2.line_le;have hsgs:sg.size≤1:=by rw [hsg];split <;> decide
    have hlen8:a / 8≤1000000 * 1000:=by omega
    have HF:=Lib.hid (aI h2 (aI hw2 (aI m2 (aI ha hsg))));clear hci hw2 h2 m2 ha hsg h1;obtain ⟨q,hq⟩:∃ q,q=a / 8:=⟨_,rfl⟩;obtain ⟨r,hr⟩:∃ r,r=a % 8:=⟨_,rfl⟩;have hq9:q≤1000000000:=by omega
    have hr8:r < 8:=by omega
    have hr8i:¬ (8:Int)≤(r:Int):=by omega
    have hqw:IntKind.i64.wrap ((a:Int) / 8)=(q:Int):=by
     rw [show (a:Int) / 8=(q:Int) from by omega];exact Lib.wrap_i64_small _ (by omega)
    have hrt:(a:Int).tmod 8=(r:Int):=by
     rw [Int.tmod_eq_emod_of_nonneg (by omega)];omega
    have HQR:=Lib.hid (aI hq hr);clear hq hr;go_wp2_with fail;refine wp_region_call (CNu b a q r) (fun lab' w' w2=>∃ W3 T,WAt lab' w2 b W3∧Wrote W2 W3 T∧T=decB q ++ ({ data:=#[46] }:ByteArray) ++ frT r∧Mv (·=40) w' lab' w2 lab') 43 11 lab mixed (by kernel_rfl) rfl (show 43 + 11 < 55 by omega) (by kernel_rfl) (by kernel_rfl) (by kernel_rfl) rfl (fun k v l1 w1 l2 w2 h m=>CNu.mv h m) ?_ ?_ ?_
    ·intro L a' lab' w' i o hi ho hall hb;have k0:a'.tmps.getD 0 undef=Value.pointer (some ⟨b,0,none⟩):=hb.keep 0 (fun k hk e=>by have e':43 + k=0:=e;omega);have k5:a'.tmps.getD 5 undef=Value.int .i64 a:=hb.keep 5 (fun k hk e=>by have e':43 + k=5:=e;omega)
     match i,ho with
     | 0,rfl=>exact .inl ⟨_,_,lab',rfl,Mv.refl _ _ _,k0⟩
     | 1,rfl=>exact .inl ⟨_,_,lab',rfl,Mv.refl _ _ _,k5⟩
     | 2,rfl =>
      have e0:a'.tmps.getD 44 undef=Value.int .i64 a:=hb.got 1 (by decide) (hall ⟨1,.data⟩ (by simp) rfl);rw [gdg] at e0;exact .inl ⟨.int .i64 (q:Int),w',lab',by simp [execOp,Act.eval,go_sem,e0,hqw],Mv.refl _ _ _,rfl⟩
     | 3,rfl =>
      have e0:a'.tmps.getD 45 undef=Value.int .i64 (q:Int):=hb.got 2 (by decide) (hall ⟨2,.data⟩ (by simp) rfl);refine .inr ⟨18,#[a'.tmps.getD 45 undef],by kernel_rfl,?_⟩;rw [e0];refine (Decimal_big q (by omega) w').mono ?_;rintro e w2 ⟨rfl,hb2⟩;exact ⟨_,_,rfl,Mv.below hb2 lab' 45,rfl⟩
     | 4,rfl =>
      have e0:a'.tmps.getD 46 undef=Value.string (decB q):=hb.got 3 (by decide) (hall ⟨3,.data⟩ (by simp) rfl);rw [gdg] at e0;have hz:=decB_small q (by omega);have hnb:¬ 9223372036854775807 < (decB q).size + 1:=by omega
      exact .inl ⟨.string (decB q ++ ({ data:=#[46] }:ByteArray)),w',lab',by simp [execOp,Act.eval,go_sem,e0,hnb],Mv.refl _ _ _,rfl⟩
     | 5,rfl =>
      exact .inl ⟨.slice (some ⟨w'.heap.size,0,none⟩) 8 8,w'.alloc (.cells frRow 9),lab'.ext w'.heap.size 45,by unfold frRow;simp [execOp,Act.eval,go_sem],Mv.alloc _ _ _ _,_,rfl,Cl.alloc _ _ _ _ _⟩
     | 6,rfl=>exact .inl ⟨_,_,lab',rfl,Mv.refl _ _ _,k5⟩
     | 7,rfl =>
      have e0:a'.tmps.getD 49 undef=Value.int .i64 a:=hb.got 6 (by decide) (hall ⟨6,.data⟩ (by simp) rfl);rw [gdg] at e0;exact .inl ⟨.int .i64 (r:Int),w',lab',by simp [execOp,Act.eval,go_sem,e0,hrt],Mv.refl _ _ _,rfl⟩
     | 8,rfl =>
      obtain ⟨g,e0,hg⟩:=hb.got 5 (by decide) (hall ⟨5,.data⟩ (by simp) rfl);have e0:a'.tmps.getD 48 undef=_:=e0;rw [gdg] at e0;have e1:a'.tmps.getD 50 undef=Value.int .i64 (r:Int):=hb.got 7 (by decide) (hall ⟨7,.data⟩ (by simp) rfl);rw [gdg] at e1;exact .inl ⟨.pointer (some ⟨g,r,none⟩),w',lab',by simp [execOp,Act.eval,go_sem,e0,e1,hr8i],Mv.refl _ _ _,g,rfl,hg⟩
     | 9,rfl =>
      obtain ⟨g,e0,hg⟩:=hb.got 8 (by decide) (hall ⟨8,.data⟩ (by simp) rfl);have e0:a'.tmps.getD 51 undef=_:=e0;rw [gdg] at e0;have q:w'.cell? ⟨g,r,none⟩=some (.string (frT r)):=(hg.cell r).trans (fr_get _ hr8);exact .inl ⟨.string (frT r),w',lab',by simp [execOp,Act.eval,go_sem,e0,q],Mv.refl _ _ _,rfl⟩
     | 10,rfl =>
      have e0:a'.tmps.getD 47 undef=Value.string (decB q ++ ({ data:=#[46] }:ByteArray)):=hb.got 4 (by decide) (hall ⟨4,.data⟩ (by simp) rfl);have e1:a'.tmps.getD 52 undef=Value.string (frT r):=hb.got 9 (by decide) (hall ⟨9,.data⟩ (by simp) rfl);rw [gdg] at e0 e1;have hz:=decB_small q (by omega);have hz2:=frT_size r hr8;have hnb:¬ 9223372036854775807 < (decB q).size + 1 + (frT r).size:=by omega
      have hs1:(decB q ++ ({ data:=#[46] }:ByteArray)).size=(decB q).size + 1:=by rw [bsa];rfl
      exact .inl ⟨.string (decB q ++ ({ data:=#[46] }:ByteArray) ++ frT r),w',lab',by simp [execOp,Act.eval,go_sem,e0,e1,hnb,hs1],Mv.refl _ _ _,rfl⟩
    ·intro a' lab' w' o ho hC hk m
     cases ho
     have e0:a'.tmps.getD 43 undef=Value.pointer (some ⟨b,0,none⟩):=hC 0 (by decide);have e1:a'.tmps.getD 53 undef=Value.string (decB q ++ ({ data:=#[46] }:ByteArray) ++ frT r):=hC 10 (by decide);refine ⟨28,#[a'.tmps.getD 43 undef,a'.tmps.getD 53 undef],by kernel_rfl,?_⟩;rw [e0,e1];have hz:=decB_small q (by omega);have hz2:=frT_size r hr8;have hs1:(decB q ++ ({ data:=#[46] }:ByteArray) ++ frT r).size=(decB q).size + 1 + 3:=by rw [bsa,bsa,hz2];rfl
     refine (put_c (HF.out.1.mv m (fun _ _ h=>h)) (decB q ++ ({ data:=#[46] }:ByteArray) ++ frT r) (by omega) (by omega) (by omega)).mono ?_;rintro e w2 ⟨rfl,h3,m3⟩;exact ⟨_,rfl,_,decB q ++ ({ data:=#[46] }:ByteArray) ++ frT r,h3,Wrote.put W2 _,rfl,m3⟩
    ·intro us lab' w' w2 hu hm hR;obtain ⟨W3,T,h3,hw3,hT,m3⟩:=hR;have hz:=decB_small q (by omega);have hz2:=frT_size r hr8;have hfin:NumbP lab w b W f (.returned (.tuple #[])) w2:=by
      refine ⟨rfl,W3,sg ++ T,lab',h3,HF.out.2.1.trans hw3,?_,fun e=>?_,(HF.out.2.2.1.trans hm (fun _ h=>h.elim)).trans m3 (fun _ h=>h)⟩
      ·rw [hT,bsa,bsa,bsa];show sg.size + ((decB q).size + 1 + (frT r).size)≤30;omega
      ·obtain ⟨e1,e2,e3,e4⟩:=HE.out.1;refine ⟨n,e1,e2,e3,e4,?_⟩;rw [hT,HF.out.2.2.2.2,HQR.out.1,HQR.out.2,HF.out.2.2.2.1];unfold eiT fltT;simp only [ByteArray.append_assoc]
     have HFI:=Lib.hid hfin;clear hfin h3 hw3 m3 hm
     match us,hu with
     | [y0,y1,y2,y3,y4,y5,y6,y7,y8,y9,y10,y11],_ =>
      simp only [List.take_succ_cons,List.take_zero,List.drop_succ_cons,List.drop_zero,List.cons_append,List.nil_append];go_wp2;go_end0;exact HFI.out
end
end Go.Cf
namespace Go.Cf
open Go.RowKit Go.Conc Go.Proofs
mutual
def wt:JV→Nat
 | .arr l=>1 + wts l
 | .map _ l=>1 + wts l
 | _=>1
def wts:List JV→Nat
 | []=>0
 | j :: r=>1 + wt j + wts r
end
theorem wt_eq (j:JV):wt j=1 + wts j.kids:=by cases j <;> simp [wt,wts,JV.kids]
theorem wts_app:∀ (l:List JV) (j:JV),wts (l ++ [j])=wts l + (1 + wt j)
 | [],j=>by simp [wts]
 | x :: r,j=>by simp [wts,wts_app r j];omega
theorem wts_take {l:List JV} {q:Nat} {j:JV} (h:l[q]?=some j):wts (l.take (q + 1))=wts (l.take q) + (1 + wt j):=by
 rw [List.take_add_one,h];exact wts_app _ _
theorem wts_take_le {l:List JV} {q:Nat}:wts (l.take q)≤wts l:=by
 have h:∀ (a b:List JV),wts (a ++ b)=wts a + wts b:=by
  intro a
  induction a with
  | nil=>intro b;simp [wts]
  | cons x r ih=>intro b;simp [wts,ih];omega
 have:=h (l.take q) (l.drop q);rw [List.take_append_drop] at this;omega
def nlS (nl:Bool):ByteArray:=if nl then ⟨#[10]⟩ else ⟨#[]⟩
def ValS (env:List (ByteArray × JV)) (li:Bool) (j:JV) (T:ByteArray) (U:List ByteArray):Prop:=∃ nl V P,GV env li ⟨#[]⟩ 0 j nl V U P∧T=V ++ nlS nl
def ValP (lab:Lab) (w:World) (b:Nat) (W:CW) (kj:List JV) (j:JV) (li:Bool) (e:Ending) (w':World):Prop :=
 e=.returned (.tuple #[])∧∃ W' T U lab',WAt lab' w' b W'∧WroteU W W' T U∧T.size≤200 * wt j∧U.length≤wt j∧(W'.bad=false→ValS (envW W.known kj W.inner) li j T U)∧Mv VM w lab w' lab'
structure WOk (W:CW) (kj:List JV) (n:Nat):Prop where
 var:VarOk W kj
 text:W.text.size + 200 * n≤700000000
 line:W.line + 200 * n≤700000000
 used:W.used.length + n≤10000000
 inner:W.inner.length≤1000000
 known:W.known.length≤1000
 pos:1≤W.line
theorem WOk.next {W W1:CW} {kj:List JV} {n m:Nat} {T:ByteArray} {U:List ByteArray} (h:WOk W kj n) (k:WroteU W W1 T U) (h1:T.size + 200 * m≤200 * n) (h2:U.length + m≤n):WOk W1 kj m:=by
 have a:=h.text;have b:=h.line;have c:=h.used;have e:=k.size;have f:=k.line_le;have g:W1.used.length=W.used.length + U.length:=by rw [k.used,List.length_append]
 exact ⟨h.var.same k.known k.nv k.vals,by omega,by omega,by omega,by rw [k.inner];exact h.inner,by rw [k.known];exact h.known,by rw [k.line];have:=h.pos;omega⟩
def ValC (j:JV):Prop:=∀ (lab:Lab) (w:World) (b:Nat) (W:CW) (kj:List JV) (c:Array Value) (li:Bool) (deep:Int),WAt lab w b W→WOk W kj (wt j)→NdV 0 lab w j c→JS j→(∀ k ∈ innK j,k ∈ W.inner)→0≤deep→deep≤1000000 - wt j →
 Calls Tryz.prog 37 #[.pointer (some ⟨b,0,none⟩),.agg c,.bool li,.int .i64 deep] w (ValP lab w b W kj j li)
attribute [local go_sem] run_store_flt
theorem gv_li {env:List (ByteArray × JV)} {path:ByteArray} {ln:Nat} {j:JV} {nl:Bool} {T:ByteArray} {U:List ByteArray} {P:Pls} (h:GV env true path ln j nl T U P):nl=false:=by
 cases j with
 | txt t =>
  simp only [GV] at h;rcases h.2 with ⟨_,h⟩ | ⟨h,_⟩
  ·cases h with
   | blk _ h9=>exact h9
   | sq _=>rfl
   | bare _ _=>rfl
   | dq _=>rfl
  ·exact h
 | _=>simp only [GV] at h;exact h.1
def mkRow:Array Value:=#[.string ⟨#[44]⟩,.string ⟨#[44,32]⟩,.string ⟨#[10]⟩,.string ⟨#[32,44,10,32,32]⟩]
def spRow:Array Value:=#[.string ⟨#[]⟩,.string ⟨#[32]⟩,.string ⟨#[10]⟩]
def tlRow:Array Value:=#[.string ⟨#[32]⟩,.string ⟨#[10]⟩]
theorem mk_get (r:Nat) (h:r < 4):mkRow[r]?=some (.string (mkT r)):=by
 match r,h with
 | 0,_ | 1,_ | 2,_ | 3,_=>rfl
theorem sp_get (r:Nat) (h:r < 3):spRow[r]?=some (.string (sp3 r)):=by
 match r,h with
 | 0,_ | 1,_ | 2,_=>rfl
theorem tl_get (r:Nat) (h:r < 2):tlRow[r]?=some (.string (tlT (r + 1))):=by
 match r,h with
 | 0,_ | 1,_=>rfl
theorem mk_size (r:Nat):(mkT r).size≤5:=by
 match r with
 | 0 | 1 | 2=>decide
 | _ + 3=>exact Nat.le_refl 5
theorem sp_size (r:Nat):(sp3 r).size≤1:=by
 match r with
 | 0 | 1=>decide
 | _ + 2=>exact Nat.le_refl 1
theorem tl_size (r:Nat):(tlT r).size≤1:=by
 match r with
 | 0 | 1=>decide
 | _ + 2=>exact Nat.le_refl 1
section
variable {lab lab1:Lab} {w w1:World} {b:Nat} {W W1 W2:CW} {T T2:ByteArray}
def LiS (env:List (ByteArray × JV)) (l:List JV) (T:ByteArray) (U:List ByteArray):Prop:=∃ a mk b Es R,GL env mk true l Es U∧((l=[]∧R=⟨#[]⟩) ∨ (l ≠ []∧∃ tl,R=tlT tl))∧T=⟨#[91]⟩ ++ (sp3 a ++ (Es ++ (R ++ (sp3 b ++ ⟨#[93]⟩))))
def LiP (lab:Lab) (w:World) (b:Nat) (W:CW) (kj:List JV) (l:List JV) (e:Ending) (w':World):Prop :=
 e=.returned (.tuple #[])∧∃ W' T U lab',WAt lab' w' b W'∧WroteU W W' T U∧T.size≤200 * (1 + wts l)∧U.length≤1 + wts l∧(W'.bad=false→LiS (envW W.known kj W.inner) l T U)∧Mv VM w lab w' lab'
def LiI (lab:Lab) (w:World) (b s:Nat) (c:Array Value) (W:CW) (kj:List JV) (mk a:Nat) (l:List JV) (q:Nat) (wr:World):Prop :=
 ∃ Wq Tq Uq labq,WAt labq wr b Wq∧WroteU W Wq (⟨#[91]⟩ ++ (sp3 a ++ Tq)) Uq∧Tq.size≤200 * wts (l.take q)∧Uq.length≤wts (l.take q)∧(Wq.bad=false→GL (envW W.known kj W.inner) mk true (l.take q) Tq Uq)∧Cl 45 labq wr s c 26∧Mv VM w lab wr labq
set_option maxRecDepth 100000 in
set_option maxHeartbeats 8000000 in
theorem list_at (l:List JV) (ih:∀ x ∈ l,ValC x) (hjs:∀ x ∈ l,JS x) (hll:l.length≤8) {kj:List JV} {n:Int} {f:Nat} {is:Bool} {t:ByteArray} {a1 a2:Option Addr} {m1 c1 c2:Nat} (li:Bool) (deep:Int)
  (h:WAt lab w b W) (hw:WOk W kj (1 + wts l)) (hv:NdVs 0 lab w a2 0 l) (hin:∀ k ∈ innKs l,k ∈ W.inner) (hd0:0≤deep) (hd1:deep≤1000000 - (1 + wts l)) :
  Calls Tryz.prog 46 #[.pointer (some ⟨b,0,none⟩),.agg #[.int .i64 5,.int .i64 n,.float .f64 f,.bool is,.string t,.slice a1 m1 c1,.slice a2 l.length c2],.bool li,.int .i64 deep] w (LiP lab w b W kj l):=by
 have hmv:∀ o,Mv (fun _=>False) w lab (w.alloc o) (lab.ext w.heap.size 45):=fun o=>Mv.alloc _ _ _ _
 have HMV:=Lib.hid hmv;have HK:=Lib.hid h;have h3:∀ o,(w.alloc o).cell? ⟨b,3,none⟩=some (.bool W.bad):=fun o=>(h.mv (hmv o) (fun _ _ h=>h)).c3
 have f3:∀ o,(w.alloc o).frozen? ⟨b,3,none⟩=false:=fun o=>(h.mv (hmv o) (fun _ _ h=>h)).f3
 have HW:=Lib.hid hw;have HV:=Lib.hid hv;have HI:=Lib.hid (aI ih (aI hjs hin));clear hmv h hw hv ih hjs hin;go_enter Tryz.func46,Tryz.ntmps46;go_upto_region 1 with fail
 obtain ⟨bx,hbx⟩:∃ bx:Array Value,bx=#[.int .i64 5,.int .i64 n,.float .f64 f,.bool is,.string t,.slice a1 m1 c1,.slice a2 l.length c2]:=⟨_,rfl⟩;go_cut [5] from 11 to 83 (fun s5 wx=>s5=.pointer (some ⟨w.heap.size,0,none⟩)∧∃ x,(x=false→W.bad=false)∧WAt (lab.ext w.heap.size 45) wx b (W.flag x)∧Cl 45 (lab.ext w.heap.size 45) wx w.heap.size bx 26∧Mv (·=40) w lab wx (lab.ext w.heap.size 45))
 case first =>
  have key:∀ x:Bool,WAt (lab.ext w.heap.size 45) ((w.alloc (.cells bx 26)).setCell ⟨b,3,none⟩ (.bool x)) b (W.flag x)∧Cl 45 (lab.ext w.heap.size 45) ((w.alloc (.cells bx 26)).setCell ⟨b,3,none⟩ (.bool x)) w.heap.size bx 26∧Mv (·=40) w lab ((w.alloc (.cells bx 26)).setCell ⟨b,3,none⟩ (.bool x)) (lab.ext w.heap.size 45):=fun x=>by
   have h1:=(HK.out.mv (HMV.out (.cells bx 26)) (fun _ _ h=>h)).flag x;exact ⟨h1.1,(Cl.alloc w lab bx 26 45).mv h1.2 (by decide),((HMV.out (.cells bx 26)).mono (fun _ h=>h.elim)).trans h1.2 (fun _ h=>h)⟩
  have KEY:=Lib.hid key;clear key
  cases hb:W.bad with
  | true =>
   rw [hb] at h3;go_wp2_with fail;go_meet
   case rel=>exact ⟨rfl,true,(fun e=>by cases e),by have:=KEY.out true;subst hbx;exact this⟩
  | false =>
   have HB:=Lib.hid hb;rw [hb] at h3
   cases li with
   | true =>
    go_wp2_with fail
    go_meet
    case rel=>exact ⟨rfl,true,(fun e=>by cases e),by have:=KEY.out true;subst hbx;exact this⟩
   | false =>
    go_wp2_with fail
    go_meet
    case rel=>exact ⟨rfl,false,(fun _=>HB.out),by have:=KEY.out false;subst hbx;exact this⟩
 case rest =>
  obtain ⟨rfl,xb,hxb,h1,hb1,m1⟩:=hcut;have hw0:=Wrote.flag W xb hxb;obtain ⟨W0,hW0⟩:∃ W0,W0=W.flag xb:=⟨_,rfl⟩;obtain ⟨lab0,hlab0⟩:∃ x,x=lab.ext w.heap.size 45:=⟨_,rfl⟩;rw [← hW0] at h1 hw0;rw [← hlab0] at h1 hb1 m1;clear hW0 hxb h3 f3 hlab0
  -- the mark
  have mA:Mv (fun _=>False) wc lab0 (wc.alloc (.cells mkRow 9)) (lab0.ext wc.heap.size 45):=Mv.alloc0 _ _ _ _;have HA:=Lib.hid (aI (h1.mv mA (fun _ _ h=>h)) (aI (hb1.mv mA (fun h=>h)) (m1.trans mA (fun _ h=>h.elim))));have hpk:=Wrote.pick W0 4;have hplt:=pick_lt W0 4 (by decide);have hbn:∀ o,(wc.alloc o).heap.size=wc.heap.size + 1:=fun o=>World.size_alloc _ _
  have hrl:(lab0.ext wc.heap.size 45) wc.heap.size=45:=Lab.ext_ge (Nat.le_refl _);clear h1 hb1 m1 mA;go_wp2_with fail;refine (pick_c HA.out.1 4 (by decide) (by decide)).mono ?_;rintro e w2 ⟨rfl,h2,m2⟩;obtain ⟨mk,W2,hj2⟩:∃ u W2,W0.pick 4=(u,W2):=⟨_,_,rfl⟩;rw [hj2] at h2 hpk hplt ⊢;simp only at h2 hpk hplt ⊢;have hrow:w2.heap[wc.heap.size]?=some (.cells mkRow 9 (0,0)):=by
   rw [m2.block wc.heap.size (by rw [hbn];omega) (by rw [hrl];decide)];exact heap_alloc_new wc _
  have q1:w2.cell? ⟨wc.heap.size,mk,none⟩=some (.string (mkT mk)):=(blk_cell hrow mk).trans (mk_get mk hplt);have HA2:=Lib.hid (aI h2 (aI (HA.out.2.1.mv m2 (by decide)) (aI (HA.out.2.2.trans m2 (fun _ h=>h)) (hw0.trans hpk))));have hmk4:(mk:Int) < 4:=by omega
  clear h2 m2 hrow hw0 hpk hrl hbn HA
  -- what opens
  have mB:Mv (fun _=>False) w2 (lab0.ext wc.heap.size 45) (w2.alloc (.cells spRow 9)) ((lab0.ext wc.heap.size 45).ext w2.heap.size 45):=Mv.alloc0 _ _ _ _;have HB:=Lib.hid (aI (HA2.out.1.mv mB (fun _ _ h=>h)) (aI (HA2.out.2.1.mv mB (fun h=>h)) (HA2.out.2.2.1.trans mB (fun _ h=>h.elim))));have hpk:=Wrote.pick W2 3;have hplt2:=pick_lt W2 3 (by decide);have hbn:∀ o,(w2.alloc o).heap.size=w2.heap.size + 1:=fun o=>World.size_alloc _ _
  have hrl:((lab0.ext wc.heap.size 45).ext w2.heap.size 45) w2.heap.size=45:=Lab.ext_ge (Nat.le_refl _);clear mB;go_wp2_with fail;refine (pick_c HB.out.1 3 (by decide) (by decide)).mono ?_;rintro e w3 ⟨rfl,h3,m3⟩;obtain ⟨a,W3,hj3⟩:∃ u W3,W2.pick 3=(u,W3):=⟨_,_,rfl⟩;rw [hj3] at h3 hpk hplt2 ⊢;simp only at h3 hpk hplt2 ⊢;have hrow:w3.heap[w2.heap.size]?=some (.cells spRow 9 (0,0)):=by
   rw [m3.block w2.heap.size (by rw [hbn];omega) (by rw [hrl];decide)];exact heap_alloc_new w2 _
  have q2:w3.cell? ⟨w2.heap.size,a,none⟩=some (.string (sp3 a)):=(blk_cell hrow a).trans (sp_get a hplt2);have ha3:(a:Int) < 3:=by omega
  have hsa:=sp_size a;have hw3:=HA2.out.2.2.2.trans hpk;simp only [empty_app] at hw3;have hsz3:=hw3.size;have hln3:=hw3.line_le;have hz0:(⟨#[]⟩:ByteArray).size=0:=rfl;have htx:=HW.out.text;have hlx:=HW.out.line;have HA3:=Lib.hid (aI h3 (aI (HB.out.2.1.mv m3 (by decide)) (aI (HB.out.2.2.trans m3 (fun _ h=>h)) hw3)));have hnb:¬ 9223372036854775807 < 1 + (sp3 a).size:=by omega
  have hs1:(({ data:=#[91] }:ByteArray) ++ sp3 a).size=1 + (sp3 a).size:=by rw [bsa];rfl
  clear h3 m3 hrow hpk hrl hbn HB hw3 HA2 q1;go_wp2_with fail;refine (put_c HA3.out.1 (({ data:=#[91] }:ByteArray) ++ sp3 a) (by omega) (by omega) (by omega)).mono ?_;rintro e w4 ⟨rfl,h4,m4⟩;have hw4:=HA3.out.2.2.2.trans (Wrote.put W3 (({ data:=#[91] }:ByteArray) ++ sp3 a));rw [empty_app] at hw4;obtain ⟨W4,hW4⟩:∃ x,x=W3.put (({ data:=#[91] }:ByteArray) ++ sp3 a):=⟨_,rfl⟩;rw [← hW4] at h4 hw4;clear hW4;have hb4:=HA3.out.2.1.mv m4 (by decide);have q6:w4.cell? ⟨w.heap.size,6,none⟩=some (.slice a2 l.length c2):=by subst hbx;exact hb4.cell 6
  have hI4:LiI lab w b w.heap.size bx W kj mk a l 0 w4:=⟨W4,⟨#[]⟩,[],_,h4,by
   have:=hw4.toU;rw [show (⟨#[91]⟩ ++ (sp3 a ++ ⟨#[]⟩):ByteArray)=⟨#[91]⟩ ++ sp3 a from by rw [show sp3 a ++ (⟨#[]⟩:ByteArray)=sp3 a from ByteArray.append_empty]]
   exact this,Nat.zero_le _,by simp,fun _=>by simp only [List.take_zero,GL];exact ⟨trivial,trivial⟩,hb4,((HA3.out.2.2.1.trans m4 (fun _ h=>h))).mono (M':=VM) (fun _ h=>.inl h)⟩
  have HI4:=Lib.hid hI4;clear hI4 h4 hw4 hb4 m4 HA3 q2;go_wp2_with fail;go_loopw [37] (fun i wr=>∃ q:Nat,i=.int .i64 q∧q≤l.length∧LiI lab w b w.heap.size bx W kj mk a l q wr) (fun i _=>l.length - (RowKit.intOf i).toNat)
  case atStart=>exact ⟨0,rfl,Nat.zero_le _,HI4.out⟩
  case round =>
   obtain ⟨q,rfl,hq,hI⟩:=hrel;by_cases hlt:q < l.length
   ·have hq1:(q:Int) < (l.length:Int):=by omega
    have hq0:(0:Int)≤(q:Int):=Int.natCast_nonneg _;obtain ⟨x,hx⟩:∃ x,l[q]?=some x:=⟨_,List.getElem?_eq_getElem hlt⟩;obtain ⟨Wq,Tq,Uq,labq,hwq,hwr,hT,hU,hbd,hbq,mq⟩:=hI;obtain ⟨ad,cx,rfl,hl0,hc7,hxv⟩:=HV.out.get hx;rw [Nat.zero_add] at hc7;have hxr:=NdV.mv mq (by decide) x hxv;obtain ⟨kx,nx,fx,bxx,sx,ax,mx,ccx,ay,my,ccy,rfl⟩:=hxv.shape;have hc8:=cell7.mv hc7 mq (by rw [hl0];decide);obtain ⟨r0,r1,r2,r3,r4,r5,r6⟩:=hc8.facts;have mE:=Mv.alloc0 wr labq (.cells (ndC kx nx fx bxx sx (.slice ax mx ccx) (.slice ay my ccy)) 26) 45;have hbox:=Cl.alloc wr labq (ndC kx nx fx bxx sx (.slice ax mx ccx) (.slice ay my ccy)) 26 45;have hwt:=wts_take hx;have hwl:wts (l.take (q + 1))≤wts l:=wts_take_le;have hszq:=hwr.size;have hlnq:=hwr.line_le;have hs91:((⟨#[91]⟩:ByteArray) ++ (sp3 a ++ Tq)).size=1 + ((sp3 a).size + Tq.size):=by rw [bsa,bsa];rfl
    have HQ:=Lib.hid (aI (hwq.mv mE (fun _ _ h=>h)) (aI hwr (aI hbd (aI (hbq.mv mE (fun h=>h)) (aI (mq.trans mE (fun _ h=>h.elim)) (aI hbox (NdV.mv mE (fun h=>h) x hxr)))))));clear hwq hwr hbd hbq mq hbox mE hxr hc7 hc8 hxv;unfold ndC at *;go_upto_if 43 with fail
    go_cut [] from 42 to 47 (fun wx=>∃ Wm labm mt,WAt labm wx b Wm∧Wrote Wq Wm mt∧mt=(if true && (l.take q).isEmpty then ⟨#[]⟩ else mkT mk)∧Mv (·=40) (wr.alloc (.cells #[.int .i64 kx,.int .i64 nx,.float .f64 fx,.bool bxx,.string sx,.slice ax mx ccx,.slice ay my ccy] 26)) (labq.ext wr.heap.size 45) wx labm)
    case first =>
     by_cases hq00:q=0
     ·have d1:decide ((0:Int) < (q:Int))=false:=decide_eq_false (by omega);have d2:decide (0 < q)=false:=decide_eq_false (by omega);have d3:¬ ((0:Int) < (q:Int)):=by omega
      have d4:¬ 0 < q:=by omega
      have he:(l.take q).isEmpty=true:=by rw [hq00];rfl
      clear hq00;go_wp2_with fail;go_meet
      case rel=>exact ⟨Wq,_,⟨#[]⟩,HQ.out.1,⟨ByteArray.append_empty.symm,fun h=>h,by rfl,rfl,rfl,rfl,rfl,rfl⟩,by rw [he];rfl,Mv.refl _ _ _⟩
     ·have d1:decide ((0:Int) < (q:Int))=true:=decide_eq_true (by omega);have hne:(l.take q).isEmpty=false:=by
       rw [List.isEmpty_eq_false_iff];intro e;have:=congrArg List.length e;rw [List.length_take,List.length_nil] at this;omega
      have hms:=mk_size mk;go_wp2_with fail;refine (put_c HQ.out.1 (mkT mk) (by omega) (by omega) (by omega)).mono ?_;rintro e w5 ⟨rfl,h5,m5⟩;have H5:=Lib.hid (aI h5 m5);clear h5 m5;go_wp2_with fail;go_meet
      case rel=>exact ⟨_,_,mkT mk,H5.out.1,Wrote.put Wq _,by rw [hne];rfl,H5.out.2⟩
    case rest =>
     obtain ⟨Wm,labm,mt,hm,hwm,hmt,mm⟩:=hcut;have hboxm:=HQ.out.2.2.2.2.2.1.mv mm (by decide);have hwbd:=hwm.bad;have HWB:=Lib.hid hwbd;clear hwbd;have p0:wc.cell? ⟨wr.heap.size,0,none⟩=some (.int .i64 kx):=hboxm.cell 0;have p1:wc.cell? ⟨wr.heap.size,1,none⟩=some (.int .i64 nx):=hboxm.cell 1;have p2:wc.cell? ⟨wr.heap.size,2,none⟩=some (.float .f64 fx):=hboxm.cell 2;have p3:wc.cell? ⟨wr.heap.size,3,none⟩=some (.bool bxx):=hboxm.cell 3;have p4:wc.cell? ⟨wr.heap.size,4,none⟩=some (.string sx):=hboxm.cell 4;have p5:wc.cell? ⟨wr.heap.size,5,none⟩=some (.slice ax mx ccx):=hboxm.cell 5;have p6:wc.cell? ⟨wr.heap.size,6,none⟩=some (.slice ay my ccy):=hboxm.cell 6;have hmts:mt.size≤5:=by
      rw [hmt]
      split
      ·exact Nat.zero_le _
      ·exact mk_size mk
     have hwall:=HQ.out.2.1.trans hwm.toU;have hwok:WOk Wm kj (wt x):=HW.out.next hwall (by rw [bsa];omega) (by simp only [List.append_nil];omega);obtain ⟨HI1,HI2,HI3⟩:=HI.out;have hinx:∀ k ∈ innK x,k ∈ Wm.inner:=fun k hk=>by
      rw [hwall.inner];refine HI3 k ?_;have:∀ (l:List JV) (q:Nat),l[q]?=some x→k ∈ innKs l:=by
       intro l
       induction l with
       | nil=>intro q h;simp at h
       | cons y r ihr =>
        intro q h;simp only [innKs,List.mem_append]
        cases q with
        | zero=>simp only [List.getElem?_cons_zero,Option.some.injEq] at h;subst h;exact .inl hk
        | succ q=>exact .inr (ihr q (by simpa using h))
      exact this l q hx
     have HC:=Lib.hid (HI1 x (List.mem_of_getElem? hx) labm wc b Wm kj _ true (deep + 1) hm hwok (NdV.mv mm (by decide) x HQ.out.2.2.2.2.2.2) (HI2 x (List.mem_of_getElem? hx)) hinx (by omega) (by omega));have HB:=Lib.hid (aI (HQ.out.2.2.2.1.mv mm (by decide)) (aI (HQ.out.2.2.2.2.1.trans mm (fun _ h=>.inl h)) (aI hwall (aI hmt hmts))));have hdw:deep + 1≤9223372036854775807:=by omega
     clear hm hwm mm hboxm hwall hwok hinx hmt HI1 HI2 HI3;unfold ndC at *;go_wp2_with fail;refine HC.out.mono ?_;rintro e w7 ⟨rfl,W7,V,U7,lab7,h7,hw7,hT7,hU7,hbd7,m7⟩;obtain ⟨hb7,hmq7,hwall,hmt,-⟩:=HB.out;have hI7:LiI lab w b w.heap.size bx W kj mk a l (q + 1) w7:=by
      refine ⟨W7,Tq ++ (mt ++ V),Uq ++ U7,lab7,h7,?_,?_,?_,fun e=>?_,hb7.mv m7 (by decide),hmq7.trans m7 (fun _ h=>h)⟩
      ·have:=hwall.trans hw7;simp only [List.append_nil,ByteArray.append_assoc] at this ⊢;exact this
      ·rw [bsa,bsa];omega
      ·rw [List.length_append];omega
      ·obtain ⟨nl,V',P,hG,hV⟩:=hbd7 e;obtain rfl:=gv_li hG;have hVV:V=V':=by rw [hV];exact ByteArray.append_empty
       rw [hwall.known,hwall.inner] at hG;have hgl:=HQ.out.2.2.1 (HWB.out (hw7.bad e));rw [List.take_add_one,hx,hmt,hVV];exact GL.snoc hG _ hgl
     have HI7:=Lib.hid hI7;clear hI7 h7 hw7 hbd7 m7 hb7 hmq7 hwall hmt;go_wp2;go_roundw
     case rel=>exact ⟨q + 1,by go_num,by omega,HI7.out⟩
     case measure=>simp [RowKit.intOf];omega
   ·have hq1:¬ ((q:Int) < (l.length:Int)):=by omega
    obtain rfl:q=l.length:=by omega
    obtain ⟨Wq,Tq,Uq,labq,hwq,hwr,hT,hU,hbd,hbq,mq⟩:=hI;rw [List.take_length] at hT hU hbd;have s6:wr.cell? ⟨w.heap.size,6,none⟩=some (.slice a2 l.length c2):=by subst hbx;exact hbq.cell 6
    have hszq:=hwr.size;have hlnq:=hwr.line_le;have hs91:((⟨#[91]⟩:ByteArray) ++ (sp3 a ++ Tq)).size=1 + ((sp3 a).size + Tq.size):=by rw [bsa,bsa];rfl
    have HQ:=Lib.hid (aI hwq (aI hwr (aI hbd (aI hbq mq))));clear hbd mq HI4 hwr;go_upto_region 11 with fail
    go_cut [61] from 53 to 62 (fun s61 wx=>∃ z W8 lab8,s61=.bool z∧(z=true→l ≠ [])∧WAt lab8 wx b W8∧Wrote Wq W8 ⟨#[]⟩∧Cl 45 lab8 wx w.heap.size bx 26∧Mv (·=40) wr labq wx lab8)
    case first =>
     by_cases hl0:l.length=0
     ·have d1:decide ((0:Int) < (l.length:Int))=false:=decide_eq_false (by omega);have d3:¬ ((0:Int) < (l.length:Int)):=by omega
      have d4:¬ 0 < l.length:=by omega
      have hi1:Wrote Wq Wq ⟨#[]⟩:=⟨ByteArray.append_empty.symm,fun h=>h,by rfl,rfl,rfl,rfl,rfl,rfl⟩;clear hl0;go_wp2_with fail;go_meet
      case rel=>exact ⟨false,Wq,labq,rfl,(fun e=>by cases e),HQ.out.1,hi1,HQ.out.2.2.2.1,Mv.refl _ _ _⟩
     ·have d1:decide ((0:Int) < (l.length:Int))=true:=decide_eq_true (by omega);have d2:decide (0 < l.length)=true:=decide_eq_true (by omega);have hne:l ≠ []:=fun e=>hl0 (by rw [e];rfl)
      have hpk:=Wrote.pick Wq 4;have HPK:=Lib.hid (aI hpk hne);clear hpk hl0 hne;go_wp2_with fail;refine (pick_c HQ.out.1 4 (by decide) (by decide)).mono ?_;rintro e w8 ⟨rfl,h8,m8⟩;have H8:=Lib.hid (aI h8 (aI (HQ.out.2.2.2.1.mv m8 (by decide)) m8));clear h8 m8;generalize (Wq.pick 4).1=u8;by_cases hu8:u8=1
      ·have e1:((u8:Int) == 1)=true:=beq_iff_eq.2 (by omega);clear hu8;go_wp2_with fail;go_meet
       case rel=>exact ⟨true,_,labq,rfl,(fun _=>HPK.out.2),H8.out.1,HPK.out.1,H8.out.2.1,H8.out.2.2⟩
      ·have e1:((u8:Int) == 1)=false:=bqf (by omega);clear hu8;go_wp2_with fail;go_meet
       case rel=>exact ⟨false,_,labq,rfl,(fun e=>by cases e),H8.out.1,HPK.out.1,H8.out.2.1,H8.out.2.2⟩
    case rest =>
     obtain ⟨z,W8,lab8,rfl,hz,h8,hw8,hb8,m8⟩:=hcut;have hsz8:=hw8.size;have hln8:=hw8.line_le;have v6:wc.cell? ⟨w.heap.size,6,none⟩=some (.slice a2 l.length c2):=by subst hbx;exact hb8.cell 6
     have H8:=Lib.hid (aI h8 (aI hw8 (aI hb8 m8)));clear h8 hw8 hb8 m8 s6;go_upto_if 61 with fail
     go_cut [] from 62 to 75 (fun wx=>∃ W9 R lab9,WAt lab9 wx b W9∧Wrote Wq W9 R∧R.size≤1∧((l=[]∧R=⟨#[]⟩) ∨ (l ≠ []∧∃ tl,R=tlT tl))∧Mv (·=40) wr labq wx lab9)
     case first =>
      cases z with
      | true =>
       have hne:=hz rfl;have HNE:=Lib.hid hne;clear hne hz;go_wp2_with fail;refine (put_c H8.out.1 ⟨#[44]⟩ (by decide) (by omega) (by omega)).mono ?_;rintro e w9 ⟨rfl,h9,m9⟩;have hw9:=H8.out.2.1.trans (Wrote.put W8 ⟨#[44]⟩);rw [empty_app] at hw9;have H9:=Lib.hid (aI h9 (aI hw9 (H8.out.2.2.2.trans m9 (fun _ h=>h))));clear h9 hw9 m9;go_wp2_with fail;go_meet
       case rel=>exact ⟨_,⟨#[44]⟩,lab8,H9.out.1,H9.out.2.1,by decide,.inr ⟨HNE.out,0,rfl⟩,H9.out.2.2⟩
      | false =>
       clear hz;by_cases hl0:l.length=0
       ·have d1:decide ((0:Int) < (l.length:Int))=false:=decide_eq_false (by omega);have d3:¬ ((0:Int) < (l.length:Int)):=by omega
        have d4:¬ 0 < l.length:=by omega
        have hle:l=[]:=List.eq_nil_of_length_eq_zero hl0;have HLE:=Lib.hid hle;clear hl0 hle;go_wp2_with fail;go_meet
        case rel=>exact ⟨W8,⟨#[]⟩,lab8,H8.out.1,H8.out.2.1,by decide,.inl ⟨HLE.out,rfl⟩,H8.out.2.2.2⟩
       ·have d1:decide ((0:Int) < (l.length:Int))=true:=decide_eq_true (by omega);have d2:decide (0 < l.length)=true:=decide_eq_true (by omega);have hne:l ≠ []:=fun e=>hl0 (by rw [e];rfl)
        have HNE:=Lib.hid hne;clear hl0 hne;have mA:Mv (fun _=>False) wc lab8 (wc.alloc (.cells tlRow 9)) (lab8.ext wc.heap.size 45):=Mv.alloc0 _ _ _ _;have HA:=Lib.hid (aI (H8.out.1.mv mA (fun _ _ h=>h)) (H8.out.2.2.2.trans mA (fun _ h=>h.elim)));have hpk:=Wrote.pick W8 2;have hplt:=pick_lt W8 2 (by decide);have hbn:∀ o,(wc.alloc o).heap.size=wc.heap.size + 1:=fun o=>World.size_alloc _ _
        have hrl:(lab8.ext wc.heap.size 45) wc.heap.size=45:=Lab.ext_ge (Nat.le_refl _);clear mA;go_wp2_with fail;refine (pick_c HA.out.1 2 (by decide) (by decide)).mono ?_;rintro e w9 ⟨rfl,h9,m9⟩;obtain ⟨ul,W9,hj9⟩:∃ u W2,W8.pick 2=(u,W2):=⟨_,_,rfl⟩;rw [hj9] at h9 hpk hplt ⊢;simp only at h9 hpk hplt ⊢;have hrow:w9.heap[wc.heap.size]?=some (.cells tlRow 9 (0,0)):=by
         rw [m9.block wc.heap.size (by rw [hbn];omega) (by rw [hrl];decide)];exact heap_alloc_new wc _
        have q1:w9.cell? ⟨wc.heap.size,ul,none⟩=some (.string (tlT (ul + 1))):=(blk_cell hrow ul).trans (tl_get ul hplt);have hul2:(ul:Int) < 2:=by omega
        have hts:=tl_size (ul + 1);have hsz9:=hpk.size;have hln9:=hpk.line_le;have H9:=Lib.hid (aI h9 (aI (H8.out.2.1.trans hpk) (HA.out.2.trans m9 (fun _ h=>h))));clear h9 m9 hrow hpk hrl hbn HA;go_wp2_with fail;refine (put_c H9.out.1 (tlT (ul + 1)) (by omega) (by omega) (by omega)).mono ?_;rintro e w10 ⟨rfl,h10,m10⟩;have hw10:=H9.out.2.1.trans (Wrote.put W9 (tlT (ul + 1)));simp only [empty_app] at hw10;have H10:=Lib.hid (aI h10 (aI hw10 (H9.out.2.2.trans m10 (fun _ h=>h))));clear h10 hw10 m10;go_wp2_with fail;go_meet
        case rel=>exact ⟨_,tlT (ul + 1),_,H10.out.1,H10.out.2.1,hts,.inr ⟨HNE.out,_,rfl⟩,H10.out.2.2⟩
     case rest =>
      obtain ⟨W9,R,lab9,h9,hw9,hRs,hR,m9⟩:=hcut;have hsz9:=hw9.size;have hln9:=hw9.line_le;have mA:Mv (fun _=>False) wc lab9 (wc.alloc (.cells spRow 9)) (lab9.ext wc.heap.size 45):=Mv.alloc0 _ _ _ _;have HA:=Lib.hid (aI (h9.mv mA (fun _ _ h=>h)) (aI (m9.trans mA (fun _ h=>h.elim)) (aI hw9 hR)));have hpk:=Wrote.pick W9 3;have hplt:=pick_lt W9 3 (by decide);have hbn:∀ o,(wc.alloc o).heap.size=wc.heap.size + 1:=fun o=>World.size_alloc _ _
      have hrl:(lab9.ext wc.heap.size 45) wc.heap.size=45:=Lab.ext_ge (Nat.le_refl _);clear mA h9 hw9 m9 hR;go_wp2_with fail;refine (pick_c HA.out.1 3 (by decide) (by decide)).mono ?_;rintro e w10 ⟨rfl,h10,m10⟩;obtain ⟨ub,W10,hj10⟩:∃ u W2,W9.pick 3=(u,W2):=⟨_,_,rfl⟩;rw [hj10] at h10 hpk hplt ⊢;simp only at h10 hpk hplt ⊢;have hrow:w10.heap[wc.heap.size]?=some (.cells spRow 9 (0,0)):=by
       rw [m10.block wc.heap.size (by rw [hbn];omega) (by rw [hrl];decide)];exact heap_alloc_new wc _
      have q1:w10.cell? ⟨wc.heap.size,ub,none⟩=some (.string (sp3 ub)):=(blk_cell hrow ub).trans (sp_get ub hplt);have hub3:(ub:Int) < 3:=by omega
      have hts:=sp_size ub;have hsz10:=hpk.size;have hln10:=hpk.line_le;have hnb2:¬ 9223372036854775807 < (sp3 ub).size + 1:=by omega
      have hs93:(sp3 ub ++ ({ data:=#[93] }:ByteArray)).size=(sp3 ub).size + 1:=by rw [bsa];rfl
      have H10:=Lib.hid (aI h10 (aI (HA.out.2.2.1.trans hpk) (HA.out.2.1.trans m10 (fun _ h=>h))));clear h10 m10 hrow hpk hrl hbn;go_wp2_with fail;refine (put_c H10.out.1 (sp3 ub ++ ({ data:=#[93] }:ByteArray)) (by omega) (by omega) (by omega)).mono ?_;rintro e w11 ⟨rfl,h11,m11⟩;have hfin:LiP lab w b W kj l (.returned (.tuple #[])) w11:=by
       have hw11:=H10.out.2.1.trans (Wrote.put W10 (sp3 ub ++ ({ data:=#[93] }:ByteArray)));rw [show R ++ (⟨#[]⟩:ByteArray)=R from ByteArray.append_empty] at hw11;have hwa:=HQ.out.2.1.trans hw11.toU;refine ⟨rfl,_,_,_,_,h11,hwa,?_,?_,fun e=>?_,((HQ.out.2.2.2.2.trans ((H10.out.2.2.mono (M':=VM) (fun _ h=>.inl h))) (fun _ h=>h))).trans (m11.mono (M':=VM) (fun _ h=>.inl h)) (fun _ h=>h)⟩
       ·rw [bsa,hs91,bsa (a:=R)];omega
       ·simp only [List.append_nil];omega
       ·refine ⟨a,mk,ub,Tq,R,?_,HA.out.2.2.2,by simp only [ByteArray.append_assoc]⟩;simp only [List.append_nil];exact HQ.out.2.2.1 (hw11.bad e)
      have HFI:=Lib.hid hfin;clear hfin h11 m11;go_wp2;go_end0;exact HFI.out
end
end Go.Cf
namespace Go.Cf
open Go.RowKit Go.Conc Go.Proofs
attribute [local go_sem ↓] appX_eq
def v18g (b nb:Nat) (lv ix px:Value) (kn va:Value) (kB:ByteArray) (xs:List Value):Nat→Option Value
 | 4=>some (.pointer (some ⟨b,4,none⟩))
 | 21=>some (.pointer (some ⟨b,4,none⟩))
 | 11=>some (.pointer (some ⟨b,5,none⟩))
 | 24=>some (.pointer (some ⟨b,5,none⟩))
 | 5=>some kn
 | 12=>some va
 | 6=>some (.string kB)
 | 13=>some (.pointer (some ⟨nb,6,none⟩))
 | 14=>some lv
 | 15=>some ix
 | 16=>some px
 | 17=>some (.agg xs.toArray)
 | 7=>none
 | 8=>none
 | 18=>none
 | 19=>none
 | 22=>none
 | 25=>none
 | _=>some (.pointer (some ⟨b,0,none⟩))
structure R18g (lab0:Lab) (w0:World) (b nb:Nat) (lv ix px:Value) (W:CW) (sv kn va us inn:Value) (kB:ByteArray) (xs:List Value) (t0:Array Value) (L:Array Bool) (a:Act) (lab:Lab) (w:World):Prop where
 defers:a.defers=[]
 size:a.tmps.size=t0.size
 keep:∀ j,¬ (153≤j∧j≤176)→a.tmps.getD j undef=t0.getD j undef
 mv:Mv KM w0 lab0 w lab
 got:∀ i v,i < 26→L.getD i false=true→v18g b nb lv ix px kn va kB xs i=some v→a.tmps.getD (s18 i) undef=v
 g7:L.getD 7 false=true→∃ g,a.tmps.getD 160 undef=.slice (some ⟨g,0,none⟩) 1 1∧Cl 45 lab w g #[.string kB] 9
 g18:L.getD 18 false=true→∃ g,a.tmps.getD 171 undef=.slice (some ⟨g,0,none⟩) 1 1∧Cl 45 lab w g xs.toArray 26
 cl:Cl 40 lab w b (W.cells sv (if L.getD 22 false=true then a.tmps.getD 161 undef else kn) (if L.getD 25 false=true then a.tmps.getD 172 undef else va) us inn) 53
 r1:if L.getD 8 false=true then Rw 0 41 lab w 9 1 (a.tmps.getD 161 undef) (W.known.length + 1) (W.known.map Value.string ++ [.string kB]) else Rw 0 41 lab w 9 1 kn W.known.length (W.known.map Value.string)
 r2:if L.getD 19 false=true then Rw 0 42 lab w 26 7 (a.tmps.getD 172 undef) (W.nv + 1) (W.vals ++ xs) else Rw 0 42 lab w 26 7 va W.nv W.vals
 ord:(L.getD 22 false=true→L.getD 8 false=true)∧(L.getD 8 false=true→L.getD 5 false=true)∧(L.getD 25 false=true→L.getD 19 false=true)∧(L.getD 19 false=true→L.getD 12 false=true)
section
variable {lab0 lab lab2:Lab} {w0 w w2:World} {b nb:Nat} {lv ix px:Value} {W:CW} {sv kn va us inn:Value} {kB:ByteArray} {xs:List Value} {t0:Array Value} {L:Array Bool} {a:Act}
theorem R18g.plain (h:R18g lab0 w0 b nb lv ix px W sv kn va us inn kB xs t0 L a lab w) (hL:L.size=26) (ht:200≤t0.size) (i:Nat) (hi:i < 26) (v:Value) (hv:v18g b nb lv ix px kn va kB xs i=some v)
  (h5:i=5→L.getD 8 false=false) (h12:i=12→L.getD 19 false=false) :
  R18g lab0 w0 b nb lv ix px W sv kn va us inn kB xs t0 (L.setIfInBounds i true) (a.put (some (s18 i)) v) lab w:=by
 have hs:s18 i < a.tmps.size:=by rw [h.size];unfold s18;split <;> omega
 have hn:i ≠ 7∧i ≠ 8∧i ≠ 18∧i ≠ 19∧i ≠ 22∧i ≠ 25:=by
  refine ⟨?_,?_,?_,?_,?_,?_⟩ <;> (rintro rfl;cases hv)
 have hg:∀ j,(L.setIfInBounds i true).getD j false=if j=i then true else L.getD j false:=fun j=>getD_set L i j (by omega)
 have hp:∀ k,(a.put (some (s18 i)) v).tmps.getD k undef=if k=s18 i then v else a.tmps.getD k undef:=fun k=>put_getD hs
 have hr:∀ k,153≤k→k≤174→k ≠ 153 + i→(a.put (some (s18 i)) v).tmps.getD k undef=a.tmps.getD k undef:=fun k h1 h2 h3=>by
  rw [hp,if_neg];intro e;unfold s18 at e
  split at e <;> omega
 have e7:(L.setIfInBounds i true).getD 7 false=L.getD 7 false:=by rw [hg,if_neg (by omega)]
 have e8:(L.setIfInBounds i true).getD 8 false=L.getD 8 false:=by rw [hg,if_neg (by omega)]
 have e18:(L.setIfInBounds i true).getD 18 false=L.getD 18 false:=by rw [hg,if_neg (by omega)]
 have e19:(L.setIfInBounds i true).getD 19 false=L.getD 19 false:=by rw [hg,if_neg (by omega)]
 have e22:(L.setIfInBounds i true).getD 22 false=L.getD 22 false:=by rw [hg,if_neg (by omega)]
 have e25:(L.setIfInBounds i true).getD 25 false=L.getD 25 false:=by rw [hg,if_neg (by omega)]
 refine ⟨h.defers,by simpa [Act.put] using h.size,fun j hj=>?_,h.mv,fun j u hj hlj hu=>?_,?_,?_,?_,?_,?_,?_⟩
 ·rw [hp,if_neg]
  ·exact h.keep j hj
  ·intro e;unfold s18 at e
   split at e <;> omega
 ·rw [hp];by_cases hji:j=i
  ·subst hji;rw [if_pos rfl];exact Option.some.inj (hv.symm.trans hu)
  ·have hj22:j ≠ 22:=by rintro rfl;cases hu
   rw [if_neg (fun e=>hji (s18_inj e hj22 hn.2.2.2.2.1))];rw [hg,if_neg hji] at hlj;exact h.got j u hj hlj hu
 ·rw [e7,hr 160 (by omega) (by omega) (by omega)];exact h.g7
 ·rw [e18,hr 171 (by omega) (by omega) (by omega)];exact h.g18
 ·rw [e22,e25,hr 161 (by omega) (by omega) (by omega),hr 172 (by omega) (by omega) (by omega)];exact h.cl
 ·rw [e8,hr 161 (by omega) (by omega) (by omega)];exact h.r1
 ·rw [e19,hr 172 (by omega) (by omega) (by omega)];exact h.r2
 ·rw [e22,e8,e25,e19,hg,hg];obtain ⟨o1,o2,o3,o4⟩:=h.ord;refine ⟨o1,fun h=>?_,o3,fun h=>?_⟩
  ·by_cases e:5=i
   ·rw [if_pos e]
   ·rw [if_neg e];exact o2 h
  ·by_cases e:12=i
   ·rw [if_pos e]
   ·rw [if_neg e];exact o4 h
theorem R18g.grow (h:R18g lab0 w0 b nb lv ix px W sv kn va us inn kB xs t0 L a lab w) (m:Mv (fun _=>False) w lab w2 lab2):R18g lab0 w0 b nb lv ix px W sv kn va us inn kB xs t0 L a lab2 w2:=by
 refine ⟨h.defers,h.size,h.keep,h.mv.trans m (fun _ h=>h.elim),h.got,fun e=>?_,fun e=>?_,h.cl.mv m (fun h=>h),?_,?_,h.ord⟩
 ·obtain ⟨g,h1,h2⟩:=h.g7 e;exact ⟨g,h1,h2.mv m (fun h=>h)⟩
 ·obtain ⟨g,h1,h2⟩:=h.g18 e;exact ⟨g,h1,h2.mv m (fun h=>h)⟩
 ·have:=h.r1
  split
  ·next hc=>rw [if_pos hc] at this;exact this.mv m (fun h=>h)
  ·next hc=>rw [if_neg hc] at this;exact this.mv m (fun h=>h)
 ·have:=h.r2
  split
  ·next hc=>rw [if_pos hc] at this;exact this.mv m (fun h=>h)
  ·next hc=>rw [if_neg hc] at this;exact this.mv m (fun h=>h)
theorem R18g.slot (h:R18g lab0 w0 b nb lv ix px W sv kn va us inn kB xs t0 L a lab w) (hL:L.size=26) (ht:200≤t0.size) (i:Nat) (hi:i=7 ∨ i=18 ∨ i=8 ∨ i=19) (v:Value) (hli:L.getD i false=false)
  (h7:i=7→∃ g,v=.slice (some ⟨g,0,none⟩) 1 1∧Cl 45 lab w g #[.string kB] 9) (h18:i=18→∃ g,v=.slice (some ⟨g,0,none⟩) 1 1∧Cl 45 lab w g xs.toArray 26)
  (h8:i=8→L.getD 5 false=true∧L.getD 22 false=false∧Rw 0 41 lab w 9 1 v (W.known.length + 1) (W.known.map Value.string ++ [.string kB]))
  (h19:i=19→L.getD 12 false=true∧L.getD 25 false=false∧Rw 0 42 lab w 26 7 v (W.nv + 1) (W.vals ++ xs)) :
  R18g lab0 w0 b nb lv ix px W sv kn va us inn kB xs t0 (L.setIfInBounds i true) (a.put (some (s18 i)) v) lab w:=by
 have hs:s18 i < a.tmps.size:=by rw [h.size];unfold s18;split <;> omega
 have hg:∀ j,(L.setIfInBounds i true).getD j false=if j=i then true else L.getD j false:=fun j=>getD_set L i j (by omega)
 have hp:∀ k,(a.put (some (s18 i)) v).tmps.getD k undef=if k=s18 i then v else a.tmps.getD k undef:=fun k=>put_getD hs
 have hsi:s18 i=153 + i:=by unfold s18;rw [if_pos (by omega)]
 rw [hsi] at hp hs ⊢;have hne:∀ j,j ≠ i→(L.setIfInBounds i true).getD j false=L.getD j false:=fun j hj=>by rw [hg,if_neg hj]
 have hpn:∀ k,k ≠ 153 + i→(a.put (some (153 + i)) v).tmps.getD k undef=a.tmps.getD k undef:=fun k hk=>by rw [hp,if_neg hk]
 refine ⟨h.defers,by simpa [Act.put] using h.size,fun j hj=>?_,h.mv,fun j u hj hlj hu=>?_,?_,?_,?_,?_,?_,?_⟩
 ·rw [hpn j (by omega)];exact h.keep j hj
 ·have hji:j ≠ i:=by
   rintro rfl;rcases hi with rfl | rfl | rfl | rfl <;> cases hu
  rw [hne j hji] at hlj;rw [hpn]
  ·exact h.got j u hj hlj hu
  ·rw [← hsi];intro e;have hj22:j ≠ 22:=by rintro rfl;cases hu
   exact hji (s18_inj e hj22 (by omega))
 ·by_cases e:i=7
  ·subst e;obtain ⟨g,e1,e2⟩:=h7 rfl;exact fun _=>⟨g,by rw [hp,if_pos rfl];exact e1,e2⟩
  ·rw [hne 7 (by omega),hpn 160 (by omega)];exact h.g7
 ·by_cases e:i=18
  ·subst e;obtain ⟨g,e1,e2⟩:=h18 rfl;exact fun _=>⟨g,by rw [hp,if_pos rfl];exact e1,e2⟩
  ·rw [hne 18 (by omega),hpn 171 (by omega)];exact h.g18
 ·have hcl:=h.cl;rw [hne 22 (by omega),hne 25 (by omega)];by_cases e:i=8
  ·subst e;rw [if_neg (by rw [(h8 rfl).2.1];decide)] at hcl ⊢;rw [hpn 172 (by omega)];exact hcl
  ·rw [hpn 161 (by omega)];by_cases e2:i=19
   ·subst e2;rw [if_neg (show ¬ L.getD 25 false=true by rw [(h19 rfl).2.1];decide)] at hcl ⊢;exact hcl
   ·rw [hpn 172 (by omega)];exact hcl
 ·by_cases e:i=8
  ·subst e;rw [hg,if_pos rfl,if_pos rfl,hp,if_pos rfl];exact (h8 rfl).2.2
  ·rw [hne 8 (by omega),hpn 161 (by omega)];exact h.r1
 ·by_cases e:i=19
  ·subst e;rw [hg,if_pos rfl,if_pos rfl,hp,if_pos rfl];exact (h19 rfl).2.2
  ·rw [hne 19 (by omega),hpn 172 (by omega)];exact h.r2
 ·obtain ⟨o1,o2,o3,o4⟩:=h.ord;rw [hne 22 (by omega),hne 25 (by omega),hne 5 (by omega),hne 12 (by omega),hg 8,hg 19];refine ⟨fun h=>?_,fun h=>?_,fun h=>?_,fun h=>?_⟩
  ·split
   ·rfl
   ·exact o1 h
  ·by_cases e:8=i
   ·exact (h8 e.symm).1
   ·rw [if_neg e] at h;exact o2 h
  ·split
   ·rfl
   ·exact o3 h
  ·by_cases e:19=i
   ·exact (h19 e.symm).1
   ·rw [if_neg e] at h;exact o4 h
theorem R18g.app1 (h:R18g lab0 w0 b nb lv ix px W sv kn va us inn kB xs t0 L a lab w) (hL:L.size=26) (ht:200≤t0.size) (m:Mv (·=41) w lab w2 lab2) (hd:L.getD 5 false=true) (hs:L.getD 22 false=false) (v:Value)
  (hrw:Rw 0 41 lab2 w2 9 1 v (W.known.length + 1) (W.known.map Value.string ++ [.string kB])):R18g lab0 w0 b nb lv ix px W sv kn va us inn kB xs t0 (L.setIfInBounds 8 true) (a.put (some 161) v) lab2 w2:=by
 have hsz:161 < a.tmps.size:=by rw [h.size];omega
 have hg:∀ j,(L.setIfInBounds 8 true).getD j false=if j=8 then true else L.getD j false:=fun j=>getD_set L 8 j (by omega)
 have hp:∀ k,(a.put (some 161) v).tmps.getD k undef=if k=161 then v else a.tmps.getD k undef:=fun k=>put_getD hsz
 have hne:∀ j,j ≠ 8→(L.setIfInBounds 8 true).getD j false=L.getD j false:=fun j hj=>by rw [hg,if_neg hj]
 have hpn:∀ k,k ≠ 161→(a.put (some 161) v).tmps.getD k undef=a.tmps.getD k undef:=fun k hk=>by rw [hp,if_neg hk]
 refine ⟨h.defers,by simpa [Act.put] using h.size,fun j hj=>?_,h.mv.trans m (fun x hx=>by omega),fun j u hj hlj hu=>?_,?_,?_,?_,?_,?_,?_⟩
 ·rw [hpn j (by omega)];exact h.keep j hj
 ·have hji:j ≠ 8:=by rintro rfl;cases hu
  rw [hne j hji] at hlj;rw [hpn]
  ·exact h.got j u hj hlj hu
  ·intro e;have hj22:j ≠ 22:=by rintro rfl;cases hu
   exact hji (s18_inj (j:=8) e hj22 (by omega))
 ·rw [hne 7 (by omega),hpn 160 (by omega)];intro e;obtain ⟨g,h1,h2⟩:=h.g7 e;exact ⟨g,h1,h2.mv m (by decide)⟩
 ·rw [hne 18 (by omega),hpn 171 (by omega)];intro e;obtain ⟨g,h1,h2⟩:=h.g18 e;exact ⟨g,h1,h2.mv m (by decide)⟩
 ·have hcl:=h.cl.mv m (by decide);rw [hne 22 (by omega),hne 25 (by omega)];rw [if_neg (show ¬ L.getD 22 false=true by rw [hs];decide)] at hcl ⊢;rw [hpn 172 (by omega)];exact hcl
 ·rw [hg,if_pos rfl,if_pos rfl,hp,if_pos rfl];exact hrw
 ·rw [hne 19 (by omega),hpn 172 (by omega)];have:=h.r2
  split
  ·next hc=>rw [if_pos hc] at this;exact this.mv m (by decide)
  ·next hc=>rw [if_neg hc] at this;exact this.mv m (by decide)
 ·obtain ⟨o1,o2,o3,o4⟩:=h.ord;rw [hne 22 (by omega),hne 25 (by omega),hne 5 (by omega),hne 12 (by omega),hg 8,hg 19];refine ⟨fun h=>?_,fun h=>?_,fun h=>?_,fun h=>?_⟩
  ·rfl
  ·exact hd
  ·exact o3 h
  ·exact o4 h
theorem R18g.app2 (h:R18g lab0 w0 b nb lv ix px W sv kn va us inn kB xs t0 L a lab w) (hL:L.size=26) (ht:200≤t0.size) (m:Mv (·=42) w lab w2 lab2) (hd:L.getD 12 false=true) (hs:L.getD 25 false=false) (v:Value)
  (hrw:Rw 0 42 lab2 w2 26 7 v (W.nv + 1) (W.vals ++ xs)):R18g lab0 w0 b nb lv ix px W sv kn va us inn kB xs t0 (L.setIfInBounds 19 true) (a.put (some 172) v) lab2 w2:=by
 have hsz:172 < a.tmps.size:=by rw [h.size];omega
 have hg:∀ j,(L.setIfInBounds 19 true).getD j false=if j=19 then true else L.getD j false:=fun j=>getD_set L 19 j (by omega)
 have hp:∀ k,(a.put (some 172) v).tmps.getD k undef=if k=172 then v else a.tmps.getD k undef:=fun k=>put_getD hsz
 have hne:∀ j,j ≠ 19→(L.setIfInBounds 19 true).getD j false=L.getD j false:=fun j hj=>by rw [hg,if_neg hj]
 have hpn:∀ k,k ≠ 172→(a.put (some 172) v).tmps.getD k undef=a.tmps.getD k undef:=fun k hk=>by rw [hp,if_neg hk]
 refine ⟨h.defers,by simpa [Act.put] using h.size,fun j hj=>?_,h.mv.trans m (fun x hx=>by omega),fun j u hj hlj hu=>?_,?_,?_,?_,?_,?_,?_⟩
 ·rw [hpn j (by omega)];exact h.keep j hj
 ·have hji:j ≠ 19:=by rintro rfl;cases hu
  rw [hne j hji] at hlj;rw [hpn]
  ·exact h.got j u hj hlj hu
  ·intro e;have hj22:j ≠ 22:=by rintro rfl;cases hu
   exact hji (s18_inj (j:=19) e hj22 (by omega))
 ·rw [hne 7 (by omega),hpn 160 (by omega)];intro e;obtain ⟨g,h1,h2⟩:=h.g7 e;exact ⟨g,h1,h2.mv m (by decide)⟩
 ·rw [hne 18 (by omega),hpn 171 (by omega)];intro e;obtain ⟨g,h1,h2⟩:=h.g18 e;exact ⟨g,h1,h2.mv m (by decide)⟩
 ·have hcl:=h.cl.mv m (by decide);rw [hne 22 (by omega),hne 25 (by omega)];rw [if_neg (show ¬ L.getD 25 false=true by rw [hs];decide)] at hcl ⊢;rw [hpn 161 (by omega)];exact hcl
 ·rw [hne 8 (by omega),hpn 161 (by omega)];have:=h.r1
  split
  ·next hc=>rw [if_pos hc] at this;exact this.mv m (by decide)
  ·next hc=>rw [if_neg hc] at this;exact this.mv m (by decide)
 ·rw [hg,if_pos rfl,if_pos rfl,hp,if_pos rfl];exact hrw
 ·obtain ⟨o1,o2,o3,o4⟩:=h.ord;rw [hne 22 (by omega),hne 25 (by omega),hne 5 (by omega),hne 12 (by omega),hg 8,hg 19];refine ⟨fun h=>?_,fun h=>?_,fun h=>?_,fun h=>?_⟩
  ·exact o1 h
  ·exact o2 h
  ·rfl
  ·exact hd
theorem R18g.store4 (h:R18g lab0 w0 b nb lv ix px W sv kn va us inn kB xs t0 L a lab w) (hL:L.size=26) (h8:L.getD 8 false=true) (v:Value) :
  R18g lab0 w0 b nb lv ix px W sv kn va us inn kB xs t0 (L.setIfInBounds 22 true) (a.put none v) lab (w.setCell ⟨b,4,none⟩ (a.tmps.getD 161 undef)):=by
 have hg:∀ j,(L.setIfInBounds 22 true).getD j false=if j=22 then true else L.getD j false:=fun j=>getD_set L 22 j (by omega)
 have hne:∀ j,j ≠ 22→(L.setIfInBounds 22 true).getD j false=L.getD j false:=fun j hj=>by rw [hg,if_neg hj]
 have m:Mv (·=40) w lab (w.setCell ⟨b,4,none⟩ (a.tmps.getD 161 undef)) lab:=Mv.setCell _ _ _ _ h.cl.2;refine ⟨h.defers,h.size,h.keep,h.mv.trans m (fun _ h=>.inl h),fun j u hj hlj hu=>?_,?_,?_,?_,?_,?_,?_⟩
 ·have:j ≠ 22:=by rintro rfl;cases hu
  rw [hne j this] at hlj;exact h.got j u hj hlj hu
 ·rw [hne 7 (by omega)];intro e;obtain ⟨g,h1,h2⟩:=h.g7 e;exact ⟨g,h1,h2.mv m (by decide)⟩
 ·rw [hne 18 (by omega)];intro e;obtain ⟨g,h1,h2⟩:=h.g18 e;exact ⟨g,h1,h2.mv m (by decide)⟩
 ·rw [hne 25 (by omega),hg,if_pos rfl,if_pos rfl];exact h.cl.set 4 _
 ·rw [hne 8 (by omega)];have:=h.r1;rw [if_pos h8] at this ⊢;exact this.mv m (by decide)
 ·rw [hne 19 (by omega)];have:=h.r2
  split
  ·next hc=>rw [if_pos hc] at this;exact this.mv m (by decide)
  ·next hc=>rw [if_neg hc] at this;exact this.mv m (by decide)
 ·rw [hne 8 (by omega),hne 25 (by omega),hne 19 (by omega),hne 5 (by omega),hne 12 (by omega)];exact ⟨fun _=>h8,h.ord.2⟩
theorem R18g.store5 (h:R18g lab0 w0 b nb lv ix px W sv kn va us inn kB xs t0 L a lab w) (hL:L.size=26) (h19:L.getD 19 false=true) (v:Value) :
  R18g lab0 w0 b nb lv ix px W sv kn va us inn kB xs t0 (L.setIfInBounds 25 true) (a.put none v) lab (w.setCell ⟨b,5,none⟩ (a.tmps.getD 172 undef)):=by
 have hg:∀ j,(L.setIfInBounds 25 true).getD j false=if j=25 then true else L.getD j false:=fun j=>getD_set L 25 j (by omega)
 have hne:∀ j,j ≠ 25→(L.setIfInBounds 25 true).getD j false=L.getD j false:=fun j hj=>by rw [hg,if_neg hj]
 have m:Mv (·=40) w lab (w.setCell ⟨b,5,none⟩ (a.tmps.getD 172 undef)) lab:=Mv.setCell _ _ _ _ h.cl.2;refine ⟨h.defers,h.size,h.keep,h.mv.trans m (fun _ h=>.inl h),fun j u hj hlj hu=>?_,?_,?_,?_,?_,?_,?_⟩
 ·have:j ≠ 25:=by rintro rfl;cases hu
  rw [hne j this] at hlj;exact h.got j u hj hlj hu
 ·rw [hne 7 (by omega)];intro e;obtain ⟨g,h1,h2⟩:=h.g7 e;exact ⟨g,h1,h2.mv m (by decide)⟩
 ·rw [hne 18 (by omega)];intro e;obtain ⟨g,h1,h2⟩:=h.g18 e;exact ⟨g,h1,h2.mv m (by decide)⟩
 ·rw [hne 22 (by omega),hg,if_pos rfl,if_pos rfl];exact h.cl.set 5 _
 ·rw [hne 8 (by omega)];have:=h.r1
  split
  ·next hc=>rw [if_pos hc] at this;exact this.mv m (by decide)
  ·next hc=>rw [if_neg hc] at this;exact this.mv m (by decide)
 ·rw [hne 19 (by omega)];have:=h.r2;rw [if_pos h19] at this ⊢;exact this.mv m (by decide)
 ·rw [hne 22 (by omega),hne 8 (by omega),hne 19 (by omega),hne 5 (by omega),hne 12 (by omega)];exact ⟨h.ord.1,h.ord.2.1,fun _=>h19,h.ord.2.2.2⟩
theorem know_regionG {P:Program} {Q:Exit→Act→World→Prop} {id:Nat} {l:List Oper} (hx:WAtX lab w b W sv kn va us inn) (kB:ByteArray) (xs:List Value) (nb:Nat) (lv ix px:Value) (hm:P.follows .mixedOrders=true)
  (hdep:(List.range l.length).all (fun i=>((l[i]?).map fun o=>o.after.all fun e=>!Region.binds .any e || decide (e.on < i)).getD true)=true)
  (hl:l.length=26) (hd:a.defers=[]) (ht:200≤a.tmps.size)
  (hstep:∀ L a' lab' w' i o,L.size=26→l[i]?=some o→L.getD i false=false→(∀ e ∈ o.after,Region.binds .any e=true→L.getD e.on false=true)→R18g lab w b nb lv ix px W sv kn va us inn kB xs a.tmps L a' lab' w' →
   wpOp P l.toArray Q i (fun a2 w2=>∃ lab2,R18g lab w b nb lv ix px W sv kn va us inn kB xs a.tmps (L.setIfInBounds i true) a2 lab2 w2) a' w')
  (hend:∀ (u:List Value) lab' w',u.length=24→WAt lab' w' b { W with known:=W.known ++ [kB],nv:=W.nv + 1,vals:=W.vals ++ xs }→Mv KM w lab w' lab'→Q .normal ⟨(a.tmps.toList.take 153 ++ (u ++ a.tmps.toList.drop 177)).toArray,[]⟩ w') :
  (Code.region id l.toArray true).wp P Q a w:=by
 have hrep:∀ i,(Array.replicate l.length false).getD i false=false:=fun i=>by
  rw [gdg,Array.getElem?_replicate]
  split <;> rfl
 refine wp_region_inv (fun L a' w'=>L.size=26∧∃ lab',R18g lab w b nb lv ix px W sv kn va us inn kB xs a.tmps L a' lab' w') hm hdep ?_ ?_ ?_
 ·refine ⟨by rw [Array.size_replicate,hl],lab,hd,rfl,fun _ _=>rfl,⟨rfl,rfl,rfl,Nat.le_refl _,fun _ _ _=>rfl,fun _ _ _=>rfl⟩,fun i v _ h=>?_,fun h=>?_,fun h=>?_,?_,?_,?_,?_⟩
  ·rw [hrep] at h;cases h
  ·rw [hrep] at h;cases h
  ·rw [hrep] at h;cases h
  ·rw [if_neg (by rw [hrep];decide),if_neg (by rw [hrep];decide)];exact hx.cl
  ·rw [if_neg (by rw [hrep];decide)];exact hx.kn
  ·rw [if_neg (by rw [hrep];decide)];exact hx.va
  ·refine ⟨fun h=>?_,fun h=>?_,fun h=>?_,fun h=>?_⟩ <;> (rw [hrep] at h;cases h)
 ·rintro L a' w' i o hL ho hf hall ⟨_,lab',hr⟩;rw [hl] at hL;have hf2:L.getD i false=false:=by
   rw [gdg] at hf ⊢
   cases hc:L[i]? with
   | none=>rfl
   | some x=>rw [hc] at hf;exact hf
  have:=hstep L a' lab' w' i o hL ho hf2 hall hr;exact wpOp_mono (fun a2 w2 h=>⟨by simpa using hL,h⟩) this
 ·rintro L a' w' hL hall ⟨_,lab',hr⟩;rw [hl] at hall;obtain ⟨u,hu,htt⟩:=frame_range a'.tmps a.tmps 153 24 hr.size (by omega) (fun j hj=>hr.keep j (by omega));have hW:WAt lab' w' b { W with known:=W.known ++ [kB],nv:=W.nv + 1,vals:=W.vals ++ xs }:=by
   have hcl:=hr.cl;have h1:=hr.r1;have h2:=hr.r2;rw [if_pos (hall 22 (by omega)),if_pos (hall 25 (by omega))] at hcl;rw [if_pos (hall 8 (by omega))] at h1;rw [if_pos (hall 19 (by omega))] at h2;refine ⟨sv,_,_,us,inn,hcl,hx.sty.mv hr.mv (by decide),?_,h2,hx.us.mv hr.mv (by decide),hx.inn.mv hr.mv (by decide)⟩;show Rw 0 41 lab' w' 9 1 _ (W.known ++ [kB]).length ((W.known ++ [kB]).map Value.string);rw [List.length_append,List.map_append];exact h1
  have:=hend u lab' w' hu hW hr.mv;have hdf:=hr.defers;obtain ⟨t,d⟩:=a';simp only at hdf htt this;subst hdf;rw [htt];exact this
end
end Go.Cf
namespace Go.Cf
open Go.RowKit Go.Conc Go.Proofs
theorem before_irr:∀ a:List UInt8,bytesBefore a a=false
 | []=>rfl
 | a :: r=>by
  simp only [bytesBefore,Bool.or_eq_false_iff,Bool.and_eq_false_iff];exact ⟨by simp,.inr (before_irr r)⟩
theorem before_trans:∀ {a b c:List UInt8},bytesBefore a b=true→bytesBefore b c=true→bytesBefore a c=true
 | [],_,[],_,h=>by cases ‹List UInt8› <;> simp [bytesBefore] at h
 | [],_,_ :: _,_,_=>rfl
 | _ :: _,[],_,h,_=>by simp [bytesBefore] at h
 | _ :: _,_ :: _,[],_,h=>by simp [bytesBefore] at h
 | a :: r,b :: s,c :: t,h1,h2=>by
  simp only [bytesBefore,Bool.or_eq_true,decide_eq_true_eq,Bool.and_eq_true,beq_iff_eq] at h1 h2 ⊢;rcases h1 with h1 | ⟨rfl,h1⟩
  ·rcases h2 with h2 | ⟨rfl,h2⟩
   ·exact .inl (UInt8.lt_trans h1 h2)
   ·exact .inl h1
  ·rcases h2 with h2 | ⟨rfl,h2⟩
   ·exact .inl h2
   ·exact .inr ⟨rfl,before_trans h1 h2⟩
theorem before_asymm {a b:List UInt8} (h:bytesBefore a b=true):bytesBefore b a=false:=by
 cases h2:bytesBefore b a with
 | false=>rfl
 | true=>have:=before_trans h h2;rw [before_irr] at this;cases this
def ltB (a b:ByteArray):Prop:=bytesBefore a.data.toList b.data.toList=true
theorem ltB.ne {a b:ByteArray} (h:ltB a b):a ≠ b:=by
 rintro rfl;unfold ltB at h;rw [before_irr] at h;cases h
theorem asc_of {ks:List ByteArray} (h:ks.Pairwise ltB):ks.Pairwise (fun x y=>bytesBefore y.data.toList x.data.toList=false∧x ≠ y):=h.imp fun h=>⟨before_asymm h,h.ne⟩
theorem asc_snoc {ks:List ByteArray} {k:ByteArray} (h:ks.Pairwise ltB) (hl:∀ x,ks.getLast?=some x→ltB x k):(ks ++ [k]).Pairwise ltB:=by
 rw [List.pairwise_append];refine ⟨h,by simp,fun x hx y hy=>?_⟩;rw [List.mem_singleton.1 hy]
 cases hks:ks.getLast? with
 | none =>
  rw [List.getLast?_eq_none_iff] at hks;rw [hks] at hx;cases hx
 | some z =>
  obtain ⟨r,rfl⟩:=List.getLast?_eq_some_iff.1 hks;have hz:=hl z hks;rcases List.mem_append.1 hx with hx | hx
  ·rw [List.pairwise_append] at h;exact before_trans (h.2.2 x hx z (by simp)) hz
  ·rw [List.mem_singleton.1 hx];exact hz
structure WroteE (W W':CW) (T:ByteArray) (U:List ByteArray):Prop where
 text:W'.text=W.text ++ T
 bad:W'.bad=false→W.bad=false
 line:W'.line=W.line + nlc T T.size
 used:W'.used=W.used ++ U
 inner:W'.inner=W.inner
 ub:∀ k ∈ U,k.size≤T.size
theorem WroteU.toE {W W':CW} {T:ByteArray} {U:List ByteArray} (h:WroteU W W' T U):WroteE W W' T U:=⟨h.text,h.bad,h.line,h.used,h.inner,h.ub⟩
theorem WroteE.trans {W W1 W2:CW} {T T2:ByteArray} {U U2:List ByteArray} (h:WroteE W W1 T U) (k:WroteE W1 W2 T2 U2):WroteE W W2 (T ++ T2) (U ++ U2) :=
 ⟨by rw [k.text,h.text,ByteArray.append_assoc],fun e=>h.bad (k.bad e),by rw [k.line,h.line,nlc_app,Nat.add_assoc],by rw [k.used,h.used,List.append_assoc],k.inner.trans h.inner,fun x hx=>by
  rw [bsa];rcases List.mem_append.1 hx with hx | hx
  ·have:=h.ub x hx;omega
  ·have:=k.ub x hx;omega⟩
theorem WroteE.size {W W1:CW} {T:ByteArray} {U:List ByteArray} (h:WroteE W W1 T U):W1.text.size=W.text.size + T.size:=by rw [h.text,bsa]
theorem WroteE.line_le {W W1:CW} {T:ByteArray} {U:List ByteArray} (h:WroteE W W1 T U):W1.line≤W.line + T.size:=by rw [h.line];have:=nlc_le T T.size;omega
def flatP (P:Pls):List Value:=P.flatMap fun x=>[.string x.1,.int .i64 (x.2:Int),.int .i64 0,.bool false]
def PlsAt (lab:Lab) (w:World) (pc:Nat) (P:Pls):Prop:=∃ pv,Cl 47 lab w pc #[pv] 31∧Rw 0 46 lab w 60 4 pv P.length (flatP P)
theorem PlsAt.mv {M:Nat→Prop} {lab lab1:Lab} {w w1:World} {pc:Nat} {P:Pls} (h:PlsAt lab w pc P) (m:Mv M w lab w1 lab1) (h46:¬ M 46) (h47:¬ M 47):PlsAt lab1 w1 pc P:=by
 obtain ⟨pv,h1,h2⟩:=h;exact ⟨pv,h1.mv m h47,h2.mv m h46⟩
def plV:Option Nat→Value
 | none=>.pointer none
 | some pc=>.pointer (some ⟨pc,0,none⟩)
def EMg (top:Bool) (pl:Option Nat) (x:Nat):Prop:=x=40 ∨ x=43 ∨ (top=true∧(x=41 ∨ x=42)) ∨ (pl.isSome=true∧(x=46 ∨ x=47))
def PlO (lab:Lab) (w:World) (pl:Option Nat) (P:Pls):Prop:=∀ pc,pl=some pc→PlsAt lab w pc P
theorem PlO.mv {M:Nat→Prop} {lab lab1:Lab} {w w1:World} {pl:Option Nat} {P:Pls} (h:PlO lab w pl P) (m:Mv M w lab w1 lab1) (h46:¬ M 46) (h47:¬ M 47):PlO lab1 w1 pl P:=fun pc hpc=>(h pc hpc).mv m h46 h47
def EntP (lab:Lab) (w:World) (b:Nat) (W:CW) (kj:List JV) (ks:List ByteArray) (l:List JV) (path:ByteArray) (ln:Nat) (pl:Option Nat) (P0:Pls) (top:Bool) (e:Ending) (w':World):Prop :=
 e=.returned (.tuple #[])∧∃ W' kj' T U P P' lab',WAt lab' w' b W'∧WroteE W W' T U∧VarOk W' kj'∧(top=false→WroteU W W' T U∧kj'=kj)∧T.size≤200 * wts l∧U.length≤wts l ∧
  (W'.bad=false→GE top (envW W.known kj W.inner) path ln ks l T U P (envW W'.known kj' W'.inner)∧ks.Pairwise ltB∧P'=P∧(l ≠ []→W'.text.size≤20000))∧PlO lab' w' pl (P0 ++ P')∧P'.length≤wts l∧Mv (EMg top pl) w lab w' lab'
def EntC (j:JV):Prop:=∀ (ks:List ByteArray) (l:List JV),j=.map ks l→∀ (lab:Lab) (w:World) (b:Nat) (W:CW) (kj:List JV) (c:Array Value) (path:ByteArray) (ln:Nat) (pl:Option Nat) (P0:Pls) (deep:Int),
 WAt lab w b W→WOk W kj (wts l)→NdV 0 lab w j c→JS j→(∀ k ∈ innKs l,k ∈ W.inner)→(deep ≠ 0→∀ k ∈ ks,k ∈ W.inner)→(deep=0→W.known=[])→0≤deep→deep≤1000000 - wts l→W.line=ln + 1→PlO lab w pl P0→P0.length + wts l≤1000000→path.size + 30 * wts l≤100000000 →
 Calls Tryz.prog 29 #[.pointer (some ⟨b,0,none⟩),.agg c,.string path,plV pl,.int .i64 deep] w (EntP lab w b W kj ks l path ln pl P0 (deep == 0))
end Go.Cf
