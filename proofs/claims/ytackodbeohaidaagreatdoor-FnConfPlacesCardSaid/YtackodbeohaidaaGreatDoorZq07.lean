/-
  Texts joined: Wg Hs Lx.
-/
import Derived.Test.YtackodbeohaidaaGreatDoorZq05
import Derived.Test.YtackodbeohaidaaGreatDoorZq06
namespace Go.Cf
open Go.RowKit Go.Conc Go.Proofs
def uL:Nat→ByteArray | 0=>⟨#[107]⟩ | 1=>⟨#[109]⟩ | 2=>⟨#[103]⟩ | _=>⟨#[116]⟩
def tL:Nat→ByteArray | 0=>⟨#[98]⟩ | 1=>⟨#[105,98]⟩ | 2=>⟨#[105]⟩ | _=>⟨#[66]⟩
def mulB (c:Int):Nat→Int
 | 0=>1
 | k + 1=>mulB c k * c
def baseB (th:Bool):Int:=if th then 1000 else 1024
theorem mulB_bd (th:Bool):∀ k,k≤4→1≤mulB (baseB th) k∧mulB (baseB th) k≤1099511627776
 | 0,_=>by cases th <;> decide
 | 1,_=>by cases th <;> decide
 | 2,_=>by cases th <;> decide
 | 3,_=>by cases th <;> decide
 | 4,_=>by cases th <;> decide
 | k + 5,h=>by omega
inductive Sfx:ByteArray→Int→Prop
 | one:Sfx ⟨#[]⟩ 1
 | low (U:Nat) (h:U < 4):Sfx (uL U) (mulB 1000 (U + 1))
 | up (U:Nat) (h:U < 4):Sfx (upAll (uL U)) (mulB 1000 (U + 1))
 | kib (U H:Nat) (h:U < 4) (h2:H < 4):Sfx (uL U ++ tL H) (mulB 1024 (U + 1))
def IntSp (n:Int) (T:ByteArray):Prop:=∃ (sg:ByteArray) (m:Nat) (sf:ByteArray) (u:Int),T=sg ++ decB m ++ sf∧Sfx sf u∧((sg=⟨#[]⟩∧n=m * u) ∨ (sg=⟨#[45]⟩∧n=-(m * u)))∧(m:Int) * u≤4611686018427387904
abbrev uRow':Array Value:=#[.string ⟨#[107]⟩,.string ⟨#[109]⟩,.string ⟨#[103]⟩,.string ⟨#[116]⟩]
abbrev tRow':Array Value:=#[.string ⟨#[98]⟩,.string ⟨#[105,98]⟩,.string ⟨#[105]⟩,.string ⟨#[66]⟩]
theorem uRow'_get (U:Nat) (h:U < 4):uRow'[U]?=some (.string (uL U)):=by
 match U,h with
 | 0,_=>rfl
 | 1,_=>rfl
 | 2,_=>rfl
 | 3,_=>rfl
theorem tRow'_get (U:Nat) (h:U < 4):tRow'[U]?=some (.string (tL U)):=by
 match U,h with
 | 0,_=>rfl
 | 1,_=>rfl
 | 2,_=>rfl
 | 3,_=>rfl
theorem uL_size (U:Nat):(uL U).size=1:=by unfold uL;split <;> decide
theorem tL_size (U:Nat):(tL U).size≤2:=by unfold tL;split <;> decide
theorem upAll_size (s:ByteArray):(upAll s).size=s.size:=by
 show ((s.data.toList.map upB).toArray).size=s.data.size
 simp
theorem Decimal_any (a:Int) (h0:-9223372036854775808≤a) (h1:a≤9223372036854775807) (w:World):Calls Tryz.prog 18 #[.int .i64 a] w fun e w'=>(∃ D:ByteArray,e=.returned (.string D)∧D.size≤19∧(0≤a→D=decB a.toNat))∧Below w.heap.size w w':=by
 by_cases hn:a < 0
 ·refine (Decimal_neg a hn h0 w).mono ?_;rintro e w' ⟨⟨t,rfl,ht⟩,hb⟩;exact ⟨⟨t,rfl,by omega,fun h=>by omega⟩,hb⟩
 ·obtain ⟨m,rfl⟩:∃ m:Nat,a=m:=⟨a.toNat,by omega⟩;refine (Decimal_big m (by omega) w).mono ?_;rintro e w' ⟨rfl,hb⟩;exact ⟨⟨_,rfl,(decB_small m (by omega)).2,fun _=>rfl⟩,hb⟩
structure Sgn (n a:Int) (x:Bool) (sg:ByteArray):Prop where
 lo:-9223372036854775808≤a
 hi:a≤9223372036854775807
 size:sg.size≤1
 ok:x=false→0≤a∧a≤4611686018427387904∧((sg=⟨#[]⟩∧n=a) ∨ (sg=⟨#[45]⟩∧n=-a))
section
variable {lab lab1:Lab} {w w1:World} {b:Nat} {W W1 W2:CW} {T T2:ByteArray}
set_option maxRecDepth 100000 in
set_option maxHeartbeats 8000000 in
theorem integer_c (h:WAt lab w b W) (n:Int) (hn0:-9223372036854775808≤n) (hn1:n≤9223372036854775807) (ht:W.text.size≤900000000) (hl:W.line≤900000000):Calls Tryz.prog 43 #[.pointer (some ⟨b,0,none⟩),.int .i64 n] w fun e w'=>e=.returned (.tuple #[])∧∃ W' T lab',WAt lab' w' b W'∧Wrote W W' T∧T.size≤30∧(W'.bad=false→IntSp n T)∧Mv (·=40) w lab w' lab':=by
 go_enter Tryz.func43,Tryz.ntmps43;go_upto_region 0 with fail
 go_cut [] from 11 to 25 (fun wx=>∃ x,WAt lab wx b (W.flag x)∧Mv (·=40) w lab wx lab∧(x=false→W.bad=false∧-4611686018427387904≤n∧n≤4611686018427387904))
 case first =>
  have c3:=h.c3;have f3:=h.f3
  cases hb:W.bad with
  | true =>
   rw [hb] at c3;go_wp2_with fail;go_meet
   case rel=>exact ⟨true,(h.flag true).1,(h.flag true).2,fun h=>by cases h⟩
  | false =>
   rw [hb] at c3;by_cases h1:n < -4611686018427387904
   ·have e1:decide (n < -4611686018427387904)=true:=decide_eq_true h1;clear h1;go_wp2_with fail;go_meet
    case rel=>exact ⟨true,(h.flag true).1,(h.flag true).2,fun h=>by cases h⟩
   have e1:decide (n < -4611686018427387904)=false:=decide_eq_false h1;by_cases h2:4611686018427387904 < n
   ·have e2:decide ((4611686018427387904:Int) < n)=true:=decide_eq_true h2;clear h2 h1;go_wp2_with fail;go_meet
    case rel=>exact ⟨true,(h.flag true).1,(h.flag true).2,fun h=>by cases h⟩
   have e2:decide ((4611686018427387904:Int) < n)=false:=decide_eq_false h2;have HN:=Lib.hid (aI h1 h2);clear h1 h2;go_wp2_with fail;go_meet
   case rel=>exact ⟨false,(h.flag false).1,(h.flag false).2,fun _=>⟨hb,by have:=HN.out.1;omega,by have:=HN.out.2;omega⟩⟩
 case rest =>
  obtain ⟨x,h1,m1,hx⟩:=hcut;have HX:=Lib.hid hx;clear hx;go_upto_if 27 with fail
  go_cut [1,4] from 26 to 29 (fun s1 s4 wx=>wx=wc∧∃ a sg,s1=.int .i64 a∧s4=.string sg∧Sgn n a x sg)
  case first =>
   by_cases hneg:n < 0
   ·have e1:decide (n < 0)=true:=decide_eq_true hneg;by_cases hmin:n=-9223372036854775808
    ·have e2:wrap64 (-n)=n:=by rw [hmin,wrap64];omega
     have HMN:=Lib.hid hmin;clear hmin;go_wp2_with fail;go_meet
     case rel=>exact ⟨rfl,_,_,rfl,rfl,by omega,by omega,by decide,fun hx=>by have:=(HX.out hx).2;have:=HMN.out;omega⟩
    ·have e2:IntKind.i64.wrap (-n)=-n:=by rw [IntKind.wrap_i64];omega
     have e3:(-9223372036854775808:Int) < n:=by omega
     go_wp2_with fail
     go_meet
     case rel=>exact ⟨rfl,_,_,rfl,rfl,by omega,by omega,by decide,fun hx=>by have:=(HX.out hx).2;exact ⟨by omega,by omega,.inr ⟨rfl,by omega⟩⟩⟩
   ·have e1:decide (n < 0)=false:=decide_eq_false hneg;go_wp2_with fail;go_meet
    case rel=>exact ⟨rfl,_,_,rfl,rfl,by omega,by omega,by decide,fun hx=>by have:=(HX.out hx).2;exact ⟨by omega,by omega,.inl ⟨rfl,rfl⟩⟩⟩
  case rest =>
   obtain ⟨hwc,a,sg,rfl,rfl,hsg⟩:=hcut;have hwc':=hwc.symm;clear hwc;subst hwc';have hw1:=Wrote.flag W x (fun e=>(HX.out e).1);have hsz1:=hw1.size;have hln1:=hw1.line_le;rw [show (⟨#[]⟩:ByteArray).size=0 from rfl] at hsz1 hln1;have hwp:=Wrote.pick (W.flag x) 8;have hat:=pick_lt (W.flag x) 8 (by decide);have hsgs:=hsg.size;have hlo:=hsg.lo;have hhi:=hsg.hi;have HSG:=Lib.hid hsg;have HH1:=Lib.hid h1;have HM1:=Lib.hid m1;clear hsg h h1 m1;go_wp2_with fail;have mA:Mv (·=40) w lab (wc.alloc (.cells uRow' 9)) (lab.ext wc.heap.size 45):=HM1.out.trans (Mv.alloc (M:=(·=40)) _ _ _ _) (fun _ h=>h);refine (pick_c (HH1.out.mv (Mv.alloc (M:=fun _=>False) wc lab (.cells uRow' 9) 45) (fun _ _ h=>h)) 8 (by decide) (by decide)).mono ?_;rintro e w2 ⟨rfl,h2,m2⟩;obtain ⟨t,W2,hj⟩:∃ t W2,(W.flag x).pick 8=(t,W2):=⟨_,_,rfl⟩;rw [hj] at h2 hwp hat ⊢;simp only at h2 hwp hat ⊢;have hwq:=Wrote.pick W2 2;have htn:=pick_lt W2 2 (by decide);go_wp2_with fail;refine (pick_c h2 2 (by decide) (by decide)).mono ?_;rintro e w3 ⟨rfl,h3,m3⟩;obtain ⟨tn,W3,hj3⟩:∃ tn W3,W2.pick 2=(tn,W3):=⟨_,_,rfl⟩;rw [hj3] at h3 hwq htn ⊢;simp only at h3 hwq htn ⊢;obtain ⟨th,hth⟩:∃ th:Bool,((tn:Int) == 0)=th:=⟨_,rfl⟩;obtain ⟨lab3,hlab3⟩:∃ lab3,lab3=lab.ext wc.heap.size 45:=⟨_,rfl⟩;rw [← hlab3] at h3 m3 m2 mA;have hrow:w3.heap[wc.heap.size]?=some (.cells uRow' 9 (0,0)):=by
    have hl:lab3 wc.heap.size=45:=by rw [hlab3];exact Lab.ext_ge (Nat.le_refl _)
    have hb2:w2.heap[wc.heap.size]?=some (.cells uRow' 9 (0,0)):=by
     rw [m2.block wc.heap.size (by rw [World.size_alloc];omega) (by rw [hl];decide)];exact heap_alloc_new wc _
    rw [m3.block wc.heap.size (lt_of_block hb2) (by rw [hl];decide)];exact hb2
   have mB:=(mA.trans m2 (fun _ h=>h)).trans m3 (fun _ h=>h);have hwall:=(hw1.trans hwp).trans hwq;rw [empty_app,empty_app] at hwall;have hsz3:=hwall.size;have hln3:=hwall.line_le;rw [show (⟨#[]⟩:ByteArray).size=0 from rfl] at hsz3 hln3;have hbad0:W3.bad=false→x=false:=fun e=>hwp.bad (hwq.bad e)
   have HW3:=Lib.hid h3;have HM3:=Lib.hid mB;have HWR:=Lib.hid hwall;have HW0:=Lib.hid hbad0;have HROW:=Lib.hid hrow;clear h2 m2 h3 m3 mA mB hwall hwp hwq hw1 hbad0 hrow hlab3 hj hj3 HM1 HH1;go_wp2_with fail;go_loop [8,9] (fun s8 s9=>∃ k:Nat,k≤4∧k≤t + 1∧s9=.int .i64 k∧s8=.int .i64 (mulB (baseB th) k)) (fun _ i=>5 - (RowKit.intOf i).toNat)
   case atStart=>exact ⟨0,by omega,by omega,rfl,rfl⟩
   case round =>
    obtain ⟨k,hk4,hkt,rfl,rfl⟩:=hrel;have hb1:=mulB_bd th k hk4;obtain ⟨y,hy⟩:∃ y,y=mulB (baseB th) k:=⟨_,rfl⟩;rw [← hy] at hb1 ⊢;have hy1:=hb1.1;have hy2:=hb1.2;have HY:=Lib.hid hy;clear hb1 hy;by_cases hlt:k≤t
    ·have d1:decide ((k:Int)≤(t:Int))=true:=decide_eq_true (by omega);by_cases h4:k < 4
     ·have d2:decide ((k:Int) < 4)=true:=decide_eq_true (by omega);have hb2:=(mulB_bd th (k + 1) (by omega)).2
      cases hc:th with
      | true =>
       have hm:mulB (baseB th) (k + 1)=y * 1000:=by rw [HY.out,hc];rfl
       rw [hm] at hb2;have w1:wrap64 (y * 1000)=y * 1000:=by rw [wrap64];omega
       rw [hc] at hth;have HHM:=Lib.hid hm;clear hm;have HHC:=Lib.hid hc;subst hc;go_wp2;go_round
       case rel=>exact ⟨k + 1,by omega,by omega,by go_num,by rw [HHM.out]⟩
       case measure=>simp [RowKit.intOf];omega
      | false =>
       have hm:mulB (baseB th) (k + 1)=y * 1024:=by rw [HY.out,hc];rfl
       rw [hm] at hb2;have w1:wrap64 (y * 1024)=y * 1024:=by rw [wrap64];omega
       rw [hc] at hth;have HHM:=Lib.hid hm;clear hm;have HHC:=Lib.hid hc;subst hc;go_wp2;go_round
       case rel=>exact ⟨k + 1,by omega,by omega,by go_num,by rw [HHM.out]⟩
       case measure=>simp [RowKit.intOf];omega
     ·have hk:k=4:=by omega
      subst hk;have d3:decide ((t:Int) < 4)=false:=decide_eq_false (by omega);clear d1;have d1:decide ((4:Int)≤(t:Int))=true:=decide_eq_true (by omega);clear hlt h4;go_wp2_with fail
      -- the number without a size
      refine (Decimal_any a hlo hhi _).mono ?_;rintro e w4 ⟨⟨D,rfl,hD,hDa⟩,hb4⟩;have h4:=HW3.out.mv (Mv.below (M:=fun _=>False) hb4 lab3 45) (fun _ _ h=>h);have m4:=HM3.out.trans (Mv.below (M:=(·=40)) hb4 lab3 45) (fun _ h=>h);have g1:¬ 9223372036854775807 < sg.size + D.size:=by omega
      have hz:(sg ++ D).size≤20:=by rw [bsa];omega
      have HDA:=Lib.hid hDa;clear hb4 hDa;go_wp2_with fail;refine (put_c h4 (sg ++ D) (by omega) (by omega) (by omega)).mono ?_;rintro e w5 ⟨rfl,h5,m5⟩;have hwr:=HWR.out.trans (Wrote.put W3 (sg ++ D));rw [empty_app] at hwr;have hbd:(W3.put (sg ++ D)).bad=false→IntSp n (sg ++ D):=fun e=>by
       have hx:=HW0.out ((Wrote.put W3 (sg ++ D)).bad e);obtain ⟨h0,h1,h2⟩:=HSG.out.ok hx;refine ⟨sg,a.toNat,⟨#[]⟩,1,by rw [HDA.out h0];exact (ByteArray.append_empty).symm,.one,?_,by omega⟩;rcases h2 with ⟨e1,e2⟩ | ⟨e1,e2⟩
       ·exact .inl ⟨e1,by omega⟩
       ·exact .inr ⟨e1,by omega⟩
      have HR:=Lib.hid (aI hwr (aI hbd (m4.trans m5 (fun _ h=>h))));clear hwr hbd m4 m5 h4;go_wp2;go_end0;exact ⟨rfl,_,_,_,h5,HR.out.1,by omega,HR.out.2.1,HR.out.2.2⟩
    ·have hk:k=t + 1:=by omega
     have ht4:t < 4:=by omega
     have d1:decide ((k:Int)≤(t:Int))=false:=decide_eq_false (by omega);have d3:decide ((t:Int) < 4)=true:=decide_eq_true (by omega);clear hlt;by_cases ha0:a=0
     ·have e0:(a == 0)=true:=beq_iff_eq.2 ha0;have e0':(a != 0)=false:=by rw [bne,e0];rfl
      have HA0:=Lib.hid ha0;clear ha0;go_wp2_with fail
      -- the number without a size
      refine (Decimal_any a hlo hhi _).mono ?_;rintro e w4 ⟨⟨D,rfl,hD,hDa⟩,hb4⟩;have h4:=HW3.out.mv (Mv.below (M:=fun _=>False) hb4 lab3 45) (fun _ _ h=>h);have m4:=HM3.out.trans (Mv.below (M:=(·=40)) hb4 lab3 45) (fun _ h=>h);have g1:¬ 9223372036854775807 < sg.size + D.size:=by omega
      have hz:(sg ++ D).size≤20:=by rw [bsa];omega
      have HDA:=Lib.hid hDa;clear hb4 hDa;go_wp2_with fail;refine (put_c h4 (sg ++ D) (by omega) (by omega) (by omega)).mono ?_;rintro e w5 ⟨rfl,h5,m5⟩;have hwr:=HWR.out.trans (Wrote.put W3 (sg ++ D));rw [empty_app] at hwr;have hbd:(W3.put (sg ++ D)).bad=false→IntSp n (sg ++ D):=fun e=>by
       have hx:=HW0.out ((Wrote.put W3 (sg ++ D)).bad e);obtain ⟨h0,h1,h2⟩:=HSG.out.ok hx;refine ⟨sg,a.toNat,⟨#[]⟩,1,by rw [HDA.out h0];exact (ByteArray.append_empty).symm,.one,?_,by omega⟩;rcases h2 with ⟨e1,e2⟩ | ⟨e1,e2⟩
       ·exact .inl ⟨e1,by omega⟩
       ·exact .inr ⟨e1,by omega⟩
      have HR:=Lib.hid (aI hwr (aI hbd (m4.trans m5 (fun _ h=>h))));clear hwr hbd m4 m5 h4;go_wp2;go_end0;exact ⟨rfl,_,_,_,h5,HR.out.1,by omega,HR.out.2.1,HR.out.2.2⟩
     have e0:(a == 0)=false:=bqf ha0;have e0':(a != 0)=true:=by rw [bne,e0];rfl
     have hyz:(y == 0)=false:=bqf (by omega);obtain ⟨r,hr⟩:∃ r,Int.tmod a y=r:=⟨_,rfl⟩;have hrb:-1099511627776≤r∧r≤1099511627776:=by
      have h1:=Int.natAbs_tmod a y;rw [hr] at h1;have h2:=Nat.mod_lt a.natAbs (show y.natAbs > 0 by omega);omega
     have hr1:=hrb.1;have hr2:=hrb.2;clear hrb;by_cases hr0:r=0
     ·have e1:(r == 0)=true:=beq_iff_eq.2 hr0;have HR0:=Lib.hid (aI hr hr0);clear hr0;have q:=blk_cell HROW.out t;rw [uRow'_get t ht4] at q;have ht0:(t:Int) < 4:=by omega
      go_upto_if 67 with fail
      go_cut [10] from 66 to 79 (fun s10 wx=>∃ tl W4 lab4,s10=.string tl∧tl.size≤3∧Sfx tl (mulB (baseB th) (t + 1))∧WAt lab4 wx b W4∧Wrote W3 W4 ⟨#[]⟩∧Mv (·=40) w3 lab3 wx lab4)
      case first =>
       have hwu2:=Wrote.pick W3 2;have hul2:=pick_lt W3 2 (by decide);have hwu4:=Wrote.pick W3 4;have hul4:=pick_lt W3 4 (by decide);have hus:=uL_size t
       cases hc:th with
       | true =>
        rw [hc] at hth;have HHC:=Lib.hid hc;subst hc;go_wp2_with fail;refine (pick_c HW3.out 2 (by decide) (by decide)).mono ?_;rintro e w4 ⟨rfl,h4,m4⟩;obtain ⟨u,W4,hu⟩:∃ u W4,W3.pick 2=(u,W4):=⟨_,_,rfl⟩;rw [hu] at h4 hwu2 hul2 ⊢;simp only at h4 hwu2 hul2 ⊢;have HH4:=Lib.hid (aI h4 (aI m4 hwu2));clear h4 m4 hwu2 hu hwu4 hul4;by_cases hu1:u=1
        ·have e2:((u:Int) == 1)=true:=beq_iff_eq.2 (by omega);clear hu1;go_wp2_with fail;refine (parseUpper_c (uL t) (by omega) _).mono ?_;rintro e w5 ⟨rfl,hb5⟩;have HB:=Lib.hid hb5;clear hb5;go_wp2_with fail;go_meet
         case rel=>exact ⟨upAll (uL t),W4,_,rfl,by rw [upAll_size];omega,.up t ht4,HH4.out.1.mv (Mv.below (M:=fun _=>False) HB.out lab3 45) (fun _ _ h=>h),HH4.out.2.2,HH4.out.2.1.trans (Mv.below (M:=(·=40)) HB.out lab3 45) (fun _ h=>h)⟩
        ·have e2:((u:Int) == 1)=false:=bqf (by omega);clear hu1;go_wp2_with fail;go_meet
         case rel=>exact ⟨uL t,W4,lab3,rfl,by omega,.low t ht4,HH4.out.1,HH4.out.2.2,HH4.out.2.1⟩
       | false =>
        rw [hc] at hth;have HHC:=Lib.hid hc;subst hc;go_wp2_with fail;refine (pick_c (HW3.out.mv (Mv.alloc (M:=fun _=>False) w3 lab3 (.cells tRow' 9) 45) (fun _ _ h=>h)) 4 (by decide) (by decide)).mono ?_;rintro e w4 ⟨rfl,h4,m4⟩;obtain ⟨u,W4,hu⟩:∃ u W4,W3.pick 4=(u,W4):=⟨_,_,rfl⟩;rw [hu] at h4 hwu4 hul4 ⊢;simp only at h4 hwu4 hul4 ⊢;have q2:w4.cell? ⟨w3.heap.size,u,none⟩=some (.string (tL u)):=by
         have hb:w4.heap[w3.heap.size]?=some (.cells tRow' 9 (0,0)):=by
          rw [m4.block w3.heap.size (by rw [World.size_alloc];omega) (by rw [Lab.ext_ge (Nat.le_refl _)];decide)];exact heap_alloc_new w3 _
         exact (blk_cell hb u).trans (tRow'_get u hul4)
        have hu4:(u:Int) < 4:=by omega
        have hts:=tL_size u;have g3:¬ 9223372036854775807 < (uL t).size + (tL u).size:=by omega
        have g4:(uL t ++ tL u).size≤3:=by rw [bsa];omega
        have HH4:=Lib.hid (aI h4 (aI ((Mv.alloc (M:=(·=40)) w3 lab3 (.cells tRow' 9) 45).trans m4 (fun _ h=>h)) hwu4));clear h4 m4 hwu2 hu hwu4 hul2;go_wp2_with fail;go_meet
        case rel=>exact ⟨uL t ++ tL u,W4,_,rfl,g4,.kib t u ht4 hul4,HH4.out.1,HH4.out.2.2,HH4.out.2.1⟩
      case rest =>
       obtain ⟨tl,W4,lab4,rfl,htl,hsf,h4,hw4,m4⟩:=hcut;obtain ⟨v,hv⟩:∃ v,Int.tdiv a y=v:=⟨_,rfl⟩;have hvb:-9223372036854775808≤v∧v≤9223372036854775807:=by
        have h1:=Int.natAbs_tdiv_le_natAbs a y;rw [hv] at h1;have h2:=Int.mul_tdiv_add_tmod a y;rw [hv,HR0.out.1,HR0.out.2] at h2;have h3:0≤v→0≤y * v:=fun h=>Int.mul_nonneg (by omega) h
        omega
       have hv1:=hvb.1;have hv2:=hvb.2;have hsz4:=hw4.size;have hln4:=hw4.line_le;rw [show (⟨#[]⟩:ByteArray).size=0 from rfl] at hsz4 hln4;have hval:x=false→0≤v∧v * y=a:=fun hx=>by
        obtain ⟨h0,_,_⟩:=HSG.out.ok hx;have h2:=Int.mul_tdiv_add_tmod a y;rw [hv,HR0.out.1,HR0.out.2] at h2;refine ⟨by rw [← hv];exact Int.tdiv_nonneg h0 (by omega),by rw [Int.mul_comm];omega⟩
       have HV:=Lib.hid hval;have HS:=Lib.hid hsf;have HW4:=Lib.hid h4;have HM4:=Lib.hid (HM3.out.trans m4 (fun _ h=>h));have hw5:=HWR.out.trans hw4;rw [empty_app] at hw5;have HWR5:=Lib.hid hw5;have HB4:=Lib.hid hw4.bad;have HR1:=HR0.out.1;clear hvb hval hsf h4 m4 hw4 hw5 HW3;go_wp2_with fail;refine (Decimal_any v hv1 hv2 _).mono ?_;rintro e w5 ⟨⟨D,rfl,hD,hDa⟩,hb5⟩;have h5:=HW4.out.mv (Mv.below (M:=fun _=>False) hb5 lab4 45) (fun _ _ h=>h);have m5:=HM4.out.trans (Mv.below (M:=(·=40)) hb5 lab4 45) (fun _ h=>h);have g1:¬ 9223372036854775807 < sg.size + D.size:=by omega
       have g2:¬ 9223372036854775807 < sg.size + D.size + tl.size:=by omega
       have hz:(sg ++ D ++ tl).size≤23:=by rw [bsa,bsa];omega
       have HDA:=Lib.hid hDa;clear hb5 hDa;go_wp2_with fail;refine (put_c h5 (sg ++ D ++ tl) (by omega) (by omega) (by omega)).mono ?_;rintro e w6 ⟨rfl,h6,m6⟩;have hwr:=HWR5.out.trans (Wrote.put W4 (sg ++ D ++ tl));rw [empty_app] at hwr;have hbd:(W4.put (sg ++ D ++ tl)).bad=false→IntSp n (sg ++ D ++ tl):=fun e=>by
        have hx:=HW0.out (HB4.out ((Wrote.put W4 (sg ++ D ++ tl)).bad e));obtain ⟨h0,h1,h2⟩:=HSG.out.ok hx;obtain ⟨hv0,hva⟩:=HV.out hx;have hm:((v.toNat:Nat):Int)=v:=by omega
        have hyy:mulB (baseB th) (t + 1)=y:=by rw [HY.out,hk]
        refine ⟨sg,v.toNat,tl,y,by rw [HDA.out hv0],by rw [← hyy];exact HS.out,?_,by rw [hm];omega⟩;rw [hm,hva];exact h2
       have HR:=Lib.hid (aI hwr (aI hbd (m5.trans m6 (fun _ h=>h))));clear hwr hbd m5 m6 h5;go_wp2
       (try simp only [Exit.inBlock,Exit.then])
       refine bodyPost_ret (results_none rfl _ _ _) rfl ?_;exact ⟨rfl,_,_,_,h6,HR.out.1,by omega,HR.out.2.1,HR.out.2.2⟩
     ·have e1:(r == 0)=false:=bqf hr0;clear hr0;go_wp2_with fail
      -- the number without a size
      refine (Decimal_any a hlo hhi _).mono ?_;rintro e w4 ⟨⟨D,rfl,hD,hDa⟩,hb4⟩;have h4:=HW3.out.mv (Mv.below (M:=fun _=>False) hb4 lab3 45) (fun _ _ h=>h);have m4:=HM3.out.trans (Mv.below (M:=(·=40)) hb4 lab3 45) (fun _ h=>h);have g1:¬ 9223372036854775807 < sg.size + D.size:=by omega
      have hz:(sg ++ D).size≤20:=by rw [bsa];omega
      have HDA:=Lib.hid hDa;clear hb4 hDa;go_wp2_with fail;refine (put_c h4 (sg ++ D) (by omega) (by omega) (by omega)).mono ?_;rintro e w5 ⟨rfl,h5,m5⟩;have hwr:=HWR.out.trans (Wrote.put W3 (sg ++ D));rw [empty_app] at hwr;have hbd:(W3.put (sg ++ D)).bad=false→IntSp n (sg ++ D):=fun e=>by
       have hx:=HW0.out ((Wrote.put W3 (sg ++ D)).bad e);obtain ⟨h0,h1,h2⟩:=HSG.out.ok hx;refine ⟨sg,a.toNat,⟨#[]⟩,1,by rw [HDA.out h0];exact (ByteArray.append_empty).symm,.one,?_,by omega⟩;rcases h2 with ⟨e1,e2⟩ | ⟨e1,e2⟩
       ·exact .inl ⟨e1,by omega⟩
       ·exact .inr ⟨e1,by omega⟩
      have HR:=Lib.hid (aI hwr (aI hbd (m4.trans m5 (fun _ h=>h))));clear hwr hbd m4 m5 h4;go_wp2;go_end0;exact ⟨rfl,_,_,_,h5,HR.out.1,by omega,HR.out.2.1,HR.out.2.2⟩
end
def Has (s:ByteArray) (p:Nat) (T:ByteArray):Prop:=p + T.size≤s.size∧∀ i,i < T.size→byteAt s (p + i)=byteAt T i
section
variable {s A C T:ByteArray} {p st:Nat} {stk:List Nat}
theorem Has.le (h:Has s p T):p + T.size≤s.size:=h.1
theorem Has.at (h:Has s p T) (i:Nat) (hi:i < T.size):byteAt s (p + i)=byteAt T i:=h.2 i hi
theorem Has.left (h:Has s p (A ++ C)):Has s p A :=
 ⟨by have:=h.1;rw [bsa] at this;omega,fun i hi=>by rw [h.2 i (by rw [bsa];omega),byteAt_app_left _ _ _ hi]⟩
theorem Has.right (h:Has s p (A ++ C)):Has s (p + A.size) C :=
 ⟨by have:=h.1;rw [bsa] at this;omega,fun i hi=>by rw [Nat.add_assoc,h.2 (A.size + i) (by rw [bsa];omega),byteAt_app_right]⟩
theorem Has.all (s:ByteArray):Has s 0 s:=⟨by omega,fun i _=>by rw [Nat.zero_add]⟩
theorem ext_bytes {a b:ByteArray} (hs:a.size=b.size) (h:∀ i,i < a.size→byteAt a i=byteAt b i):a=b:=by
 refine ByteArray.ext_getElem hs fun i h1 h2=>?_
 apply UInt8.toNat_inj.1
 rw [byteAt_get,byteAt_get];exact h i h1
theorem Has.ext (h:Has s p T):s.extract p (p + T.size)=T:=by
 have hsz:(s.extract p (p + T.size)).size=T.size:=by have:=h.1;simp;omega
 refine ext_bytes hsz fun i hi=>?_
 rw [byteAt_cut _ _ _ _ hi];exact h.2 i (by omega)
theorem leads_run {f:Nat} {Q:Nat→Prop} (hstep:∀ p,p < s.size→Q (byteAt s p)→Leads s p st stk (plainT f) (p + 1) st stk (plainT f)) (n:Nat) (hn:p + n≤s.size) (hq:∀ i,i < n→Q (byteAt s (p + i))) :
  Leads s p st stk (plainT f) (p + n) st stk (plainT f):=by
 induction n with
 | zero=>exact Leads.refl
 | succ n ih=>exact (ih (by omega) (fun i hi=>hq i (by omega))).trans (hstep (p + n) (by omega) (hq n (by omega)))
theorem Has.lt (h:Has s p T) (i:Nat) (hi:i < T.size):p + i < s.size:=by have:=h.1;omega
end
section
variable {L:LX}
theorem cs_go (ok:L.Ok) (rdy:L.Rdy):Goes1 90 L (L.ign.emit 14 L.ign.txt) (plainT 130):=by
 intro base S0 w0 w b h0;go_enter Tryz.func90,Tryz.ntmps90;go_wp2_with fail;refine (ign_c h0).mono ?_;rintro e w1 ⟨rfl,h1⟩;go_wp2_with fail;refine (emit_c 14 h1 ok.ign (by show L.parts=[];exact rdy.parts) (Nat.le_refl _) (by show L.q.length < 10;exact rdy.q)).mono ?_;rintro e w2 ⟨rfl,h2⟩;go_wp2_with fail;go_ret;exact ⟨_,rfl,h2.plain _⟩
theorem cm_ch (ok:L.Ok) (e1:isNLb L.chr=false) (h1:L.chr ≠ 0):Goes1 130 L L.pk.nxt (plainT 130):=by
 have e_0_325:(((L.chr:Nat):Int) == 0)=false:=bqf (by omega);clear h1;intro base S0 w0 w b h0;go_enter Tryz.func130,Tryz.ntmps130;go_wp2_with fail;refine (peek_c h0 ok).mono ?_;rintro e w1 ⟨rfl,h1⟩;go_wp2_with fail;refine (isNLb_c _ (chr_lt ok) _).mono ?_;rintro e w' ⟨rfl,rfl⟩;go_wp2_with fail;refine (next_c h1 ok.pk).mono ?_;rintro e w2 ⟨rfl,h2⟩;go_wp2_with fail;go_ret;exact ⟨_,rfl,h2.plain _⟩
theorem cm_nl (ok:L.Ok) (rdy:L.Rdy) (st:List Nat) (n:Nat) (hst:L.stack=st ++ [n]) (hl:st.length≤1000000) (hc:L.chr=10):Goes1 130 L ((L.pk.emit 4 L.pk.txt).stk st) (plainT n):=by
 have e_a:isNLb L.chr=true:=by rw [hc];rfl
 clear hc;intro base S0 w0 w b h0;go_enter Tryz.func130,Tryz.ntmps130;go_wp2_with fail;refine (peek_c h0 ok).mono ?_;rintro e w1 ⟨rfl,h1⟩;go_wp2_with fail;refine (isNLb_c _ (chr_lt ok) _).mono ?_;rintro e w' ⟨rfl,rfl⟩;go_wp2_with fail;refine (emit_c 4 h1 ok.pk (by simpa [nxt_parts,pk_parts] using rdy.parts) (by have:=rdy.start;simp only [pk_start,pk_pos];omega) (by simpa [nxt_q,pk_q] using rdy.q)).mono ?_;rintro e w2 ⟨rfl,h2⟩;go_wp2_with fail;refine (pop_c st n h2 (by show L.pk.stack=_;rw [pk_stack];exact hst) hl).mono ?_;rintro e w3 ⟨rfl,h3⟩;go_wp2_with fail;go_ret;exact ⟨_,rfl,h3.plain _⟩
theorem tve_semi (ok:L.Ok) (hc:L.chr=59):Goes1 94 L L.nxt.ign (plainT 60):=by
 have e_35_325:(((L.chr:Nat):Int) == 35)=false:=bqf (by omega);have e_47_325:(((L.chr:Nat):Int) == 47)=false:=bqf (by omega);have e_0_325:(((L.chr:Nat):Int) == 0)=false:=bqf (by omega);have e_59_325:(((L.chr:Nat):Int) == 59)=true:=beq_iff_eq.2 (by omega);have e_a:isWS L.chr=false:=by rw [hc];rfl
 have e_b:isNLb L.chr=false:=by rw [hc];rfl
 clear hc;intro base S0 w0 w b h0;go_enter Tryz.func94,Tryz.ntmps94;go_wp2_with fail;refine (next_c h0 ok).mono ?_;rintro e w1 ⟨rfl,h1⟩;go_wp2_with fail;refine (isWS_c _ (chr_lt ok) _).mono ?_;rintro e w' ⟨rfl,rfl⟩;go_wp2_with fail;refine (isNLb_c _ (chr_lt ok) _).mono ?_;rintro e w' ⟨rfl,rfl⟩;go_wp2_with fail;refine (ign_c h1).mono ?_;rintro e w2 ⟨rfl,h2⟩;go_wp2_with fail;go_ret;exact ⟨_,rfl,h2.plain _⟩
theorem ks_dq (ok:L.Ok) (hc:L.chr=34):Goes1 95 L L.pk.nxt (skipT 137):=by
 have e_34_325:(((L.chr:Nat):Int) == 34)=true:=beq_iff_eq.2 (by omega);have e_a:isSep L.chr=false:=by rw [hc];rfl
 have e_b:isSp L.chr=false:=by rw [hc];rfl
 clear hc;intro base S0 w0 w b h0;go_enter Tryz.func95,Tryz.ntmps95;go_wp2_with fail;refine (peek_c h0 ok).mono ?_;rintro e w1 ⟨rfl,h1⟩;go_wp2_with fail;refine (isSep_c _ (chr_lt ok) _).mono ?_;rintro e w' ⟨rfl,rfl⟩;go_wp2_with fail;refine (isSp_c _ (chr_lt ok) _).mono ?_;rintro e w' ⟨rfl,rfl⟩;go_wp2_with fail;refine (next_c h1 ok.pk).mono ?_;rintro e w2 ⟨rfl,h2⟩;go_wp2_with fail;refine (skipV_c h2 137).mono ?_;rintro e w3 ⟨rfl,hv⟩;go_wp2_with fail;go_ret;exact ⟨_,rfl,hv⟩
theorem ks_sq (ok:L.Ok) (hc:L.chr=39):Goes1 95 L L.pk.nxt (skipT 138):=by
 have e_34_325:(((L.chr:Nat):Int) == 34)=false:=bqf (by omega);have e_39_325:(((L.chr:Nat):Int) == 39)=true:=beq_iff_eq.2 (by omega);have e_a:isSep L.chr=false:=by rw [hc];rfl
 have e_b:isSp L.chr=false:=by rw [hc];rfl
 clear hc;intro base S0 w0 w b h0;go_enter Tryz.func95,Tryz.ntmps95;go_wp2_with fail;refine (peek_c h0 ok).mono ?_;rintro e w1 ⟨rfl,h1⟩;go_wp2_with fail;refine (isSep_c _ (chr_lt ok) _).mono ?_;rintro e w' ⟨rfl,rfl⟩;go_wp2_with fail;refine (isSp_c _ (chr_lt ok) _).mono ?_;rintro e w' ⟨rfl,rfl⟩;go_wp2_with fail;refine (next_c h1 ok.pk).mono ?_;rintro e w2 ⟨rfl,h2⟩;go_wp2_with fail;refine (skipV_c h2 138).mono ?_;rintro e w3 ⟨rfl,hv⟩;go_wp2_with fail;go_ret;exact ⟨_,rfl,hv⟩
theorem dqk_end (ok:L.Ok) (rdy:L.Rdy) (hc:L.chr=34):Goes1 137 L (L.pk.emit 3 L.pk.txt).nxt (skipT 163):=by
 have e_34_325:(((L.chr:Nat):Int) == 34)=true:=beq_iff_eq.2 (by omega);clear hc;intro base S0 w0 w b h0;go_enter Tryz.func137,Tryz.ntmps137;go_wp2_with fail;refine (peek_c h0 ok).mono ?_;rintro e w1 ⟨rfl,h1⟩;go_wp2_with fail;refine (emit_c 3 h1 ok.pk (by simpa [nxt_parts,pk_parts] using rdy.parts) (by have:=rdy.start;simp only [pk_start,pk_pos];omega) (by simpa [nxt_q,pk_q] using rdy.q)).mono ?_;rintro e w2 ⟨rfl,h2⟩;go_wp2_with fail;refine (next_c h2 ((ok.pk.emit 3 _))).mono ?_;rintro e w3 ⟨rfl,h3⟩;go_wp2_with fail;refine (skipV_c h3 163).mono ?_;rintro e w4 ⟨rfl,hv⟩;go_wp2_with fail;go_ret;exact ⟨_,rfl,hv⟩
theorem dqk_ch (ok:L.Ok) (h1:L.chr ≠ 34) (h2:L.chr ≠ 0):Goes1 137 L L.pk.nxt (plainT 137):=by
 have e_34_325:(((L.chr:Nat):Int) == 34)=false:=bqf (by omega);have e_0_325:(((L.chr:Nat):Int) == 0)=false:=bqf (by omega);clear h1 h2;intro base S0 w0 w b h0;go_enter Tryz.func137,Tryz.ntmps137;go_wp2_with fail;refine (peek_c h0 ok).mono ?_;rintro e w1 ⟨rfl,h1⟩;go_wp2_with fail;refine (next_c h1 ok.pk).mono ?_;rintro e w2 ⟨rfl,h2⟩;go_wp2_with fail;go_ret;exact ⟨_,rfl,h2.plain _⟩
theorem sqk_end (ok:L.Ok) (rdy:L.Rdy) (hc:L.chr=39):Goes1 138 L (L.pk.emit 3 L.pk.txt).nxt (skipT 163):=by
 have e_39_325:(((L.chr:Nat):Int) == 39)=true:=beq_iff_eq.2 (by omega);clear hc;intro base S0 w0 w b h0;go_enter Tryz.func138,Tryz.ntmps138;go_wp2_with fail;refine (peek_c h0 ok).mono ?_;rintro e w1 ⟨rfl,h1⟩;go_wp2_with fail;refine (emit_c 3 h1 ok.pk (by simpa [nxt_parts,pk_parts] using rdy.parts) (by have:=rdy.start;simp only [pk_start,pk_pos];omega) (by simpa [nxt_q,pk_q] using rdy.q)).mono ?_;rintro e w2 ⟨rfl,h2⟩;go_wp2_with fail;refine (next_c h2 ((ok.pk.emit 3 _))).mono ?_;rintro e w3 ⟨rfl,h3⟩;go_wp2_with fail;refine (skipV_c h3 163).mono ?_;rintro e w4 ⟨rfl,hv⟩;go_wp2_with fail;go_ret;exact ⟨_,rfl,hv⟩
theorem sqk_ch (ok:L.Ok) (h1:L.chr ≠ 39) (h2:L.chr ≠ 0):Goes1 138 L L.pk.nxt (plainT 138):=by
 have e_39_325:(((L.chr:Nat):Int) == 39)=false:=bqf (by omega);have e_0_325:(((L.chr:Nat):Int) == 0)=false:=bqf (by omega);clear h1 h2;intro base S0 w0 w b h0;go_enter Tryz.func138,Tryz.ntmps138;go_wp2_with fail;refine (peek_c h0 ok).mono ?_;rintro e w1 ⟨rfl,h1⟩;go_wp2_with fail;refine (next_c h1 ok.pk).mono ?_;rintro e w2 ⟨rfl,h2⟩;go_wp2_with fail;go_ret;exact ⟨_,rfl,h2.plain _⟩
theorem val_sq (ok:L.Ok) (hc:L.chr=39):Goes1 174 L L.nxt.ign (plainT 182):=by
 have e_91_325:(((L.chr:Nat):Int) == 91)=false:=bqf (by omega);have e_123_325:(((L.chr:Nat):Int) == 123)=false:=bqf (by omega);have e_39_325:(((L.chr:Nat):Int) == 39)=true:=beq_iff_eq.2 (by omega);have e_a:isWS L.chr=false:=by rw [hc];rfl
 clear hc;intro base S0 w0 w b h0;go_enter Tryz.func174,Tryz.ntmps174;go_wp2_with fail;refine (next_c h0 ok).mono ?_;rintro e w1 ⟨rfl,h1⟩;go_wp2_with fail;refine (isWS_c _ (chr_lt ok) _).mono ?_;rintro e w' ⟨rfl,rfl⟩;go_wp2_with fail;refine (ign_c h1).mono ?_;rintro e w2 ⟨rfl,h2⟩;go_wp2_with fail;go_ret;exact ⟨_,rfl,h2.plain _⟩
theorem val_map (ok:L.Ok) (rdy:L.Rdy) (hc:L.chr=123):Goes1 174 L (L.nxt.ign.emit 12 L.nxt.ign.txt) (plainT 181):=by
 have e_91_325:(((L.chr:Nat):Int) == 91)=false:=bqf (by omega);have e_123_325:(((L.chr:Nat):Int) == 123)=true:=beq_iff_eq.2 (by omega);have e_a:isWS L.chr=false:=by rw [hc];rfl
 clear hc;intro base S0 w0 w b h0;go_enter Tryz.func174,Tryz.ntmps174;go_wp2_with fail;refine (next_c h0 ok).mono ?_;rintro e w1 ⟨rfl,h1⟩;go_wp2_with fail;refine (isWS_c _ (chr_lt ok) _).mono ?_;rintro e w' ⟨rfl,rfl⟩;go_wp2_with fail;refine (ign_c h1).mono ?_;rintro e w2 ⟨rfl,h2⟩;go_wp2_with fail;refine (emit_c 12 h2 ok.nxt.ign (by show L.nxt.parts=[];simpa [nxt_parts] using rdy.parts) (Nat.le_refl _) (by show L.nxt.q.length < 10;simpa [nxt_q] using rdy.q)).mono ?_;rintro e w3 ⟨rfl,h3⟩;go_wp2_with fail;go_ret;exact ⟨_,rfl,h3.plain _⟩
theorem sq_ch (ok:L.Ok) (h1:L.chr ≠ 39) (h2:L.chr ≠ 0):Goes1 182 L L.nxt (plainT 182):=by
 have e_39_325:(((L.chr:Nat):Int) == 39)=false:=bqf (by omega);have e_0_325:(((L.chr:Nat):Int) == 0)=false:=bqf (by omega);clear h1 h2;intro base S0 w0 w b h0;go_enter Tryz.func182,Tryz.ntmps182;go_wp2_with fail;refine (next_c h0 ok).mono ?_;rintro e w1 ⟨rfl,h1⟩;go_wp2_with fail;go_ret;exact ⟨_,rfl,h1.plain _⟩
theorem sq_end (ok:L.Ok) (rdy:L.Rdy) (st:List Nat) (n:Nat) (hst:L.stack=st ++ [n]) (hl:st.length≤1000000) (hc:L.chr=39):Goes1 182 L (((L.pk.emit 5 L.pk.txt).nxt).ign.stk st) (plainT n):=by
 have e_39_325:(((L.chr:Nat):Int) == 39)=true:=beq_iff_eq.2 (by omega);clear hc;intro base S0 w0 w b h0;go_enter Tryz.func182,Tryz.ntmps182;go_wp2_with fail;refine (next_c h0 ok).mono ?_;rintro e w1 ⟨rfl,h1⟩;go_wp2_with fail;refine (back_c h1 ok.nxt (nxt_width _)).mono ?_;rintro e w2 ⟨rfl,h2⟩;rw [nxt_back] at h2;go_wp2_with fail;refine (emit_c 5 h2 ok.pk (by simpa [nxt_parts,pk_parts] using rdy.parts) (by have:=rdy.start;simp only [pk_start,pk_pos];omega) (by simpa [nxt_q,pk_q] using rdy.q)).mono ?_;rintro e w3 ⟨rfl,h3⟩;go_wp2_with fail;refine (next_c h3 ((ok.pk.emit 5 _))).mono ?_;rintro e w4 ⟨rfl,h4⟩;go_wp2_with fail;refine (ign_c h4).mono ?_;rintro e w5 ⟨rfl,h5⟩;go_wp2_with fail;refine (pop_c st n h5 (by show (L.pk.emit 5 L.pk.txt).nxt.stack=_;rw [nxt_stack];show L.pk.stack=_;rw [pk_stack];exact hst) hl).mono ?_;rintro e w6 ⟨rfl,h6⟩;go_wp2_with fail;go_ret;exact ⟨_,rfl,h6.plain _⟩
theorem dq_end (ok:L.Ok) (rdy:L.Rdy) (st:List Nat) (n:Nat) (hst:L.stack=st ++ [n]) (hl:st.length≤1000000) (hc:L.chr=34):Goes1 183 L (((L.pk.emit 5 L.pk.txt).nxt).ign.stk st) (plainT n):=by
 have e_92_325:(((L.chr:Nat):Int) == 92)=false:=bqf (by omega);have e_34_325:(((L.chr:Nat):Int) == 34)=true:=beq_iff_eq.2 (by omega);clear hc;intro base S0 w0 w b h0;go_enter Tryz.func183,Tryz.ntmps183;go_wp2_with fail;refine (next_c h0 ok).mono ?_;rintro e w1 ⟨rfl,h1⟩;go_wp2_with fail;refine (back_c h1 ok.nxt (nxt_width _)).mono ?_;rintro e w2 ⟨rfl,h2⟩;rw [nxt_back] at h2;go_wp2_with fail;refine (emitString_c h2 ok.pk (by simpa [pk_parts] using rdy.parts) (by have:=rdy.start;simp only [pk_start,pk_pos];omega) (by simpa [pk_q] using rdy.q)).mono ?_;rintro e w3 ⟨rfl,h3⟩;go_wp2_with fail;refine (next_c h3 ((ok.pk.emit 5 _))).mono ?_;rintro e w4 ⟨rfl,h4⟩;go_wp2_with fail;refine (ign_c h4).mono ?_;rintro e w5 ⟨rfl,h5⟩;go_wp2_with fail;refine (pop_c st n h5 (by show (L.pk.emit 5 L.pk.txt).nxt.stack=_;rw [nxt_stack];show L.pk.stack=_;rw [pk_stack];exact hst) hl).mono ?_;rintro e w6 ⟨rfl,h6⟩;go_wp2_with fail;go_ret;exact ⟨_,rfl,h6.plain _⟩
theorem neg_start (ok:L.Ok) (e2:isDig L.chr=true):Goes1 184 L L.nxt (plainT 198):=by
 intro base S0 w0 w b h0;go_enter Tryz.func184,Tryz.ntmps184;go_wp2_with fail;refine (next_c h0 ok).mono ?_;rintro e w1 ⟨rfl,h1⟩;go_wp2_with fail;refine (isDig_c _ (chr_lt ok) _).mono ?_;rintro e w' ⟨rfl,rfl⟩;go_wp2_with fail;go_ret;exact ⟨_,rfl,h1.plain _⟩
theorem neg_dig (ok:L.Ok) (e2:isDig L.chr=true):Goes1 198 L L.nxt (plainT 198):=by
 intro base S0 w0 w b h0;go_enter Tryz.func198,Tryz.ntmps198;go_wp2_with fail;refine (next_c h0 ok).mono ?_;rintro e w1 ⟨rfl,h1⟩;go_wp2_with fail;refine (isDig_c _ (chr_lt ok) _).mono ?_;rintro e w' ⟨rfl,rfl⟩;go_wp2_with fail;go_ret;exact ⟨_,rfl,h1.plain _⟩
theorem neg_suf (ok:L.Ok) (e2:isDig L.chr=false) (e3:isSuf L.chr=true) (h1:L.chr ≠ 46):Goes1 198 L L.nxt (plainT 212):=by
 have e_46_325:(((L.chr:Nat):Int) == 46)=false:=bqf (by omega);clear h1;intro base S0 w0 w b h0;go_enter Tryz.func198,Tryz.ntmps198;go_wp2_with fail;refine (next_c h0 ok).mono ?_;rintro e w1 ⟨rfl,h1⟩;go_wp2_with fail;refine (isDig_c _ (chr_lt ok) _).mono ?_;rintro e w' ⟨rfl,rfl⟩;go_wp2_with fail;refine (isSuf_c _ (chr_lt ok) _).mono ?_;rintro e w' ⟨rfl,rfl⟩;go_wp2_with fail;go_ret;exact ⟨_,rfl,h1.plain _⟩
theorem neg_end (ok:L.Ok) (rdy:L.Rdy) (st:List Nat) (n:Nat) (hst:L.stack=st ++ [n]) (hl:st.length≤1000000) (e2:isDig L.chr=false) (e3:isSuf L.chr=false) (h1:L.chr ≠ 46):Goes1 198 L ((L.pk.emit 7 L.pk.txt).stk st) (plainT n):=by
 have e_46_325:(((L.chr:Nat):Int) == 46)=false:=bqf (by omega);clear h1;intro base S0 w0 w b h0;go_enter Tryz.func198,Tryz.ntmps198;go_wp2_with fail;refine (next_c h0 ok).mono ?_;rintro e w1 ⟨rfl,h1⟩;go_wp2_with fail;refine (isDig_c _ (chr_lt ok) _).mono ?_;rintro e w' ⟨rfl,rfl⟩;go_wp2_with fail;refine (isSuf_c _ (chr_lt ok) _).mono ?_;rintro e w' ⟨rfl,rfl⟩;go_wp2_with fail;refine (back_c h1 ok.nxt (nxt_width _)).mono ?_;rintro e w2 ⟨rfl,h2⟩;rw [nxt_back] at h2;go_wp2_with fail;refine (emit_c 7 h2 ok.pk (by simpa [nxt_parts,pk_parts] using rdy.parts) (by have:=rdy.start;simp only [pk_start,pk_pos];omega) (by simpa [nxt_q,pk_q] using rdy.q)).mono ?_;rintro e w3 ⟨rfl,h3⟩;go_wp2_with fail;refine (pop_c st n h3 (by show L.pk.stack=_;rw [pk_stack];exact hst) hl).mono ?_;rintro e w4 ⟨rfl,h4⟩;go_wp2_with fail;go_ret;exact ⟨_,rfl,h4.plain _⟩
theorem num_semi (ok:L.Ok) (rdy:L.Rdy) (st:List Nat) (n:Nat) (hst:L.stack=st ++ [n]) (hl:st.length≤1000000) (hc:L.chr=59):Goes1 199 L ((L.pk.emit 7 L.pk.txt).stk st) (plainT n):=by
 have e_45_325:(((L.chr:Nat):Int) == 45)=false:=bqf (by omega);have e_46_325:(((L.chr:Nat):Int) == 46)=false:=bqf (by omega);have e_0_325:(((L.chr:Nat):Int) == 0)=false:=bqf (by omega);have e_125_325:(((L.chr:Nat):Int) == 125)=false:=bqf (by omega);have e_59_325:(((L.chr:Nat):Int) == 59)=true:=beq_iff_eq.2 (by omega);have e_a:isDig L.chr=false:=by rw [hc];rfl
 have e_b:isSuf L.chr=false:=by rw [hc];rfl
 have e_c:isNLb L.chr=false:=by rw [hc];rfl
 clear hc;intro base S0 w0 w b h0;go_enter Tryz.func199,Tryz.ntmps199;go_wp2_with fail;refine (next_c h0 ok).mono ?_;rintro e w1 ⟨rfl,h1⟩;go_wp2_with fail;refine (isDig_c _ (chr_lt ok) _).mono ?_;rintro e w' ⟨rfl,rfl⟩;go_wp2_with fail;refine (isSuf_c _ (chr_lt ok) _).mono ?_;rintro e w' ⟨rfl,rfl⟩;go_wp2_with fail;refine (isNLb_c _ (chr_lt ok) _).mono ?_;rintro e w' ⟨rfl,rfl⟩;go_wp2_with fail;refine (back_c h1 ok.nxt (nxt_width _)).mono ?_;rintro e w2 ⟨rfl,h2⟩;rw [nxt_back] at h2;go_wp2_with fail;refine (emit_c 7 h2 ok.pk (by simpa [nxt_parts,pk_parts] using rdy.parts) (by have:=rdy.start;simp only [pk_start,pk_pos];omega) (by simpa [nxt_q,pk_q] using rdy.q)).mono ?_;rintro e w3 ⟨rfl,h3⟩;go_wp2_with fail;refine (pop_c st n h3 (by show L.pk.stack=_;rw [pk_stack];exact hst) hl).mono ?_;rintro e w4 ⟨rfl,h4⟩;go_wp2_with fail;go_ret;exact ⟨_,rfl,h4.plain _⟩
theorem suf_semi (ok:L.Ok) (rdy:L.Rdy) (st:List Nat) (n:Nat) (hst:L.stack=st ++ [n]) (hl:st.length≤1000000) (hc:L.chr=59):Goes1 212 L ((L.pk.emit 7 L.pk.txt).stk st) (plainT n):=by
 have e_98_325:(((L.chr:Nat):Int) == 98)=false:=bqf (by omega);have e_66_325:(((L.chr:Nat):Int) == 66)=false:=bqf (by omega);have e_105_325:(((L.chr:Nat):Int) == 105)=false:=bqf (by omega);have e_73_325:(((L.chr:Nat):Int) == 73)=false:=bqf (by omega);have e_0_325:(((L.chr:Nat):Int) == 0)=false:=bqf (by omega);have e_125_325:(((L.chr:Nat):Int) == 125)=false:=bqf (by omega);have e_59_325:(((L.chr:Nat):Int) == 59)=true:=beq_iff_eq.2 (by omega);have e_c:isNLb L.chr=false:=by rw [hc];rfl
 clear hc;intro base S0 w0 w b h0;go_enter Tryz.func212,Tryz.ntmps212;go_wp2_with fail;refine (next_c h0 ok).mono ?_;rintro e w1 ⟨rfl,h1⟩;go_wp2_with fail;refine (back_c h1 ok.nxt (nxt_width _)).mono ?_;rintro e w2 ⟨rfl,h2⟩;rw [nxt_back] at h2;go_wp2_with fail;refine (isNLb_c _ (chr_lt ok) _).mono ?_;rintro e w' ⟨rfl,rfl⟩;go_wp2_with fail;refine (emit_c 7 h2 ok.pk (by simpa [nxt_parts,pk_parts] using rdy.parts) (by have:=rdy.start;simp only [pk_start,pk_pos];omega) (by simpa [nxt_q,pk_q] using rdy.q)).mono ?_;rintro e w3 ⟨rfl,h3⟩;go_wp2_with fail;refine (pop_c st n h3 (by show L.pk.stack=_;rw [pk_stack];exact hst) hl).mono ?_;rintro e w4 ⟨rfl,h4⟩;go_wp2_with fail;go_ret;exact ⟨_,rfl,h4.plain _⟩
theorem num_comma (ok:L.Ok) (rdy:L.Rdy) (st:List Nat) (n:Nat) (hst:L.stack=st ++ [n]) (hl:st.length≤1000000) (hc:L.chr=44):Goes1 199 L ((L.pk.emit 7 L.pk.txt).stk st) (plainT n):=by
 have e_45_325:(((L.chr:Nat):Int) == 45)=false:=bqf (by omega);have e_46_325:(((L.chr:Nat):Int) == 46)=false:=bqf (by omega);have e_0_325:(((L.chr:Nat):Int) == 0)=false:=bqf (by omega);have e_125_325:(((L.chr:Nat):Int) == 125)=false:=bqf (by omega);have e_59_325:(((L.chr:Nat):Int) == 59)=false:=bqf (by omega);have e_44_325:(((L.chr:Nat):Int) == 44)=true:=beq_iff_eq.2 (by omega);have e_a:isDig L.chr=false:=by rw [hc];rfl
 have e_b:isSuf L.chr=false:=by rw [hc];rfl
 have e_c:isNLb L.chr=false:=by rw [hc];rfl
 clear hc;intro base S0 w0 w b h0;go_enter Tryz.func199,Tryz.ntmps199;go_wp2_with fail;refine (next_c h0 ok).mono ?_;rintro e w1 ⟨rfl,h1⟩;go_wp2_with fail;refine (isDig_c _ (chr_lt ok) _).mono ?_;rintro e w' ⟨rfl,rfl⟩;go_wp2_with fail;refine (isSuf_c _ (chr_lt ok) _).mono ?_;rintro e w' ⟨rfl,rfl⟩;go_wp2_with fail;refine (isNLb_c _ (chr_lt ok) _).mono ?_;rintro e w' ⟨rfl,rfl⟩;go_wp2_with fail;refine (back_c h1 ok.nxt (nxt_width _)).mono ?_;rintro e w2 ⟨rfl,h2⟩;rw [nxt_back] at h2;go_wp2_with fail;refine (emit_c 7 h2 ok.pk (by simpa [nxt_parts,pk_parts] using rdy.parts) (by have:=rdy.start;simp only [pk_start,pk_pos];omega) (by simpa [nxt_q,pk_q] using rdy.q)).mono ?_;rintro e w3 ⟨rfl,h3⟩;go_wp2_with fail;refine (pop_c st n h3 (by show L.pk.stack=_;rw [pk_stack];exact hst) hl).mono ?_;rintro e w4 ⟨rfl,h4⟩;go_wp2_with fail;go_ret;exact ⟨_,rfl,h4.plain _⟩
theorem suf_comma (ok:L.Ok) (rdy:L.Rdy) (st:List Nat) (n:Nat) (hst:L.stack=st ++ [n]) (hl:st.length≤1000000) (hc:L.chr=44):Goes1 212 L ((L.pk.emit 7 L.pk.txt).stk st) (plainT n):=by
 have e_98_325:(((L.chr:Nat):Int) == 98)=false:=bqf (by omega);have e_66_325:(((L.chr:Nat):Int) == 66)=false:=bqf (by omega);have e_105_325:(((L.chr:Nat):Int) == 105)=false:=bqf (by omega);have e_73_325:(((L.chr:Nat):Int) == 73)=false:=bqf (by omega);have e_0_325:(((L.chr:Nat):Int) == 0)=false:=bqf (by omega);have e_125_325:(((L.chr:Nat):Int) == 125)=false:=bqf (by omega);have e_59_325:(((L.chr:Nat):Int) == 59)=false:=bqf (by omega);have e_44_325:(((L.chr:Nat):Int) == 44)=true:=beq_iff_eq.2 (by omega);have e_c:isNLb L.chr=false:=by rw [hc];rfl
 clear hc;intro base S0 w0 w b h0;go_enter Tryz.func212,Tryz.ntmps212;go_wp2_with fail;refine (next_c h0 ok).mono ?_;rintro e w1 ⟨rfl,h1⟩;go_wp2_with fail;refine (back_c h1 ok.nxt (nxt_width _)).mono ?_;rintro e w2 ⟨rfl,h2⟩;rw [nxt_back] at h2;go_wp2_with fail;refine (isNLb_c _ (chr_lt ok) _).mono ?_;rintro e w' ⟨rfl,rfl⟩;go_wp2_with fail;refine (emit_c 7 h2 ok.pk (by simpa [nxt_parts,pk_parts] using rdy.parts) (by have:=rdy.start;simp only [pk_start,pk_pos];omega) (by simpa [nxt_q,pk_q] using rdy.q)).mono ?_;rintro e w3 ⟨rfl,h3⟩;go_wp2_with fail;refine (pop_c st n h3 (by show L.pk.stack=_;rw [pk_stack];exact hst) hl).mono ?_;rintro e w4 ⟨rfl,h4⟩;go_wp2_with fail;go_ret;exact ⟨_,rfl,h4.plain _⟩
theorem num_brace (ok:L.Ok) (rdy:L.Rdy) (st:List Nat) (n:Nat) (hst:L.stack=st ++ [n]) (hl:st.length≤1000000) (hc:L.chr=125):Goes1 199 L ((L.pk.emit 7 L.pk.txt).stk st) (plainT n):=by
 have e_45_325:(((L.chr:Nat):Int) == 45)=false:=bqf (by omega);have e_46_325:(((L.chr:Nat):Int) == 46)=false:=bqf (by omega);have e_0_325:(((L.chr:Nat):Int) == 0)=false:=bqf (by omega);have e_125_325:(((L.chr:Nat):Int) == 125)=true:=beq_iff_eq.2 (by omega);have e_a:isDig L.chr=false:=by rw [hc];rfl
 have e_b:isSuf L.chr=false:=by rw [hc];rfl
 have e_c:isNLb L.chr=false:=by rw [hc];rfl
 clear hc;intro base S0 w0 w b h0;go_enter Tryz.func199,Tryz.ntmps199;go_wp2_with fail;refine (next_c h0 ok).mono ?_;rintro e w1 ⟨rfl,h1⟩;go_wp2_with fail;refine (isDig_c _ (chr_lt ok) _).mono ?_;rintro e w' ⟨rfl,rfl⟩;go_wp2_with fail;refine (isSuf_c _ (chr_lt ok) _).mono ?_;rintro e w' ⟨rfl,rfl⟩;go_wp2_with fail;refine (isNLb_c _ (chr_lt ok) _).mono ?_;rintro e w' ⟨rfl,rfl⟩;go_wp2_with fail;refine (back_c h1 ok.nxt (nxt_width _)).mono ?_;rintro e w2 ⟨rfl,h2⟩;rw [nxt_back] at h2;go_wp2_with fail;refine (emit_c 7 h2 ok.pk (by simpa [nxt_parts,pk_parts] using rdy.parts) (by have:=rdy.start;simp only [pk_start,pk_pos];omega) (by simpa [nxt_q,pk_q] using rdy.q)).mono ?_;rintro e w3 ⟨rfl,h3⟩;go_wp2_with fail;refine (pop_c st n h3 (by show L.pk.stack=_;rw [pk_stack];exact hst) hl).mono ?_;rintro e w4 ⟨rfl,h4⟩;go_wp2_with fail;go_ret;exact ⟨_,rfl,h4.plain _⟩
theorem suf_brace (ok:L.Ok) (rdy:L.Rdy) (st:List Nat) (n:Nat) (hst:L.stack=st ++ [n]) (hl:st.length≤1000000) (hc:L.chr=125):Goes1 212 L ((L.pk.emit 7 L.pk.txt).stk st) (plainT n):=by
 have e_98_325:(((L.chr:Nat):Int) == 98)=false:=bqf (by omega);have e_66_325:(((L.chr:Nat):Int) == 66)=false:=bqf (by omega);have e_105_325:(((L.chr:Nat):Int) == 105)=false:=bqf (by omega);have e_73_325:(((L.chr:Nat):Int) == 73)=false:=bqf (by omega);have e_0_325:(((L.chr:Nat):Int) == 0)=false:=bqf (by omega);have e_125_325:(((L.chr:Nat):Int) == 125)=true:=beq_iff_eq.2 (by omega);have e_c:isNLb L.chr=false:=by rw [hc];rfl
 clear hc;intro base S0 w0 w b h0;go_enter Tryz.func212,Tryz.ntmps212;go_wp2_with fail;refine (next_c h0 ok).mono ?_;rintro e w1 ⟨rfl,h1⟩;go_wp2_with fail;refine (back_c h1 ok.nxt (nxt_width _)).mono ?_;rintro e w2 ⟨rfl,h2⟩;rw [nxt_back] at h2;go_wp2_with fail;refine (isNLb_c _ (chr_lt ok) _).mono ?_;rintro e w' ⟨rfl,rfl⟩;go_wp2_with fail;refine (emit_c 7 h2 ok.pk (by simpa [nxt_parts,pk_parts] using rdy.parts) (by have:=rdy.start;simp only [pk_start,pk_pos];omega) (by simpa [nxt_q,pk_q] using rdy.q)).mono ?_;rintro e w3 ⟨rfl,h3⟩;go_wp2_with fail;refine (pop_c st n h3 (by show L.pk.stack=_;rw [pk_stack];exact hst) hl).mono ?_;rintro e w4 ⟨rfl,h4⟩;go_wp2_with fail;go_ret;exact ⟨_,rfl,h4.plain _⟩
theorem suf_ws (ok:L.Ok) (rdy:L.Rdy) (st:List Nat) (n:Nat) (hst:L.stack=st ++ [n]) (hl:st.length≤1000000) (hc:L.chr=32):Goes1 212 L ((L.pk.emit 7 L.pk.txt).stk st) (plainT n):=by
 have e_98_325:(((L.chr:Nat):Int) == 98)=false:=bqf (by omega);have e_66_325:(((L.chr:Nat):Int) == 66)=false:=bqf (by omega);have e_105_325:(((L.chr:Nat):Int) == 105)=false:=bqf (by omega);have e_73_325:(((L.chr:Nat):Int) == 73)=false:=bqf (by omega);have e_0_325:(((L.chr:Nat):Int) == 0)=false:=bqf (by omega);have e_125_325:(((L.chr:Nat):Int) == 125)=false:=bqf (by omega);have e_59_325:(((L.chr:Nat):Int) == 59)=false:=bqf (by omega);have e_44_325:(((L.chr:Nat):Int) == 44)=false:=bqf (by omega);have e_c:isNLb L.chr=false:=by rw [hc];rfl
 have e_d:isWS L.chr=true:=by rw [hc];rfl
 clear hc;intro base S0 w0 w b h0;go_enter Tryz.func212,Tryz.ntmps212;go_wp2_with fail;refine (next_c h0 ok).mono ?_;rintro e w1 ⟨rfl,h1⟩;go_wp2_with fail;refine (back_c h1 ok.nxt (nxt_width _)).mono ?_;rintro e w2 ⟨rfl,h2⟩;rw [nxt_back] at h2;go_wp2_with fail;refine (isNLb_c _ (chr_lt ok) _).mono ?_;rintro e w' ⟨rfl,rfl⟩;go_wp2_with fail;refine (isWS_c _ (chr_lt ok) _).mono ?_;rintro e w' ⟨rfl,rfl⟩;go_wp2_with fail;refine (emit_c 7 h2 ok.pk (by simpa [nxt_parts,pk_parts] using rdy.parts) (by have:=rdy.start;simp only [pk_start,pk_pos];omega) (by simpa [nxt_q,pk_q] using rdy.q)).mono ?_;rintro e w3 ⟨rfl,h3⟩;go_wp2_with fail;refine (pop_c st n h3 (by show L.pk.stack=_;rw [pk_stack];exact hst) hl).mono ?_;rintro e w4 ⟨rfl,h4⟩;go_wp2_with fail;go_ret;exact ⟨_,rfl,h4.plain _⟩
theorem mks_sp (ok:L.Ok) (e1:isSp L.chr=true) (e2:isSep L.chr=false) (h1:L.chr ≠ 93):Goes1 181 L L.pk.nxt (skipT 181):=by
 have e_93_325:(((L.chr:Nat):Int) == 93)=false:=bqf (by omega);clear h1;intro base S0 w0 w b h0;go_enter Tryz.func181,Tryz.ntmps181;go_wp2_with fail;refine (peek_c h0 ok).mono ?_;rintro e w1 ⟨rfl,h1⟩;go_wp2_with fail;refine (isSep_c _ (chr_lt ok) _).mono ?_;rintro e w' ⟨rfl,rfl⟩;go_wp2_with fail;refine (isSp_c _ (chr_lt ok) _).mono ?_;rintro e w' ⟨rfl,rfl⟩;go_wp2_with fail;refine (next_c h1 ok.pk).mono ?_;rintro e w2 ⟨rfl,h2⟩;go_wp2_with fail;refine (skipV_c h2 181).mono ?_;rintro e w3 ⟨rfl,hv⟩;go_wp2_with fail;go_ret;exact ⟨_,rfl,hv⟩
theorem mks_end (ok:L.Ok) (hc:L.chr=125):Goes1 181 L L.pk.nxt (skipT 191):=by
 have e_93_325:(((L.chr:Nat):Int) == 93)=false:=bqf (by omega);have e_125_325:(((L.chr:Nat):Int) == 125)=true:=beq_iff_eq.2 (by omega);have e_a:isSep L.chr=false:=by rw [hc];rfl
 have e_b:isSp L.chr=false:=by rw [hc];rfl
 clear hc;intro base S0 w0 w b h0;go_enter Tryz.func181,Tryz.ntmps181;go_wp2_with fail;refine (peek_c h0 ok).mono ?_;rintro e w1 ⟨rfl,h1⟩;go_wp2_with fail;refine (isSep_c _ (chr_lt ok) _).mono ?_;rintro e w' ⟨rfl,rfl⟩;go_wp2_with fail;refine (isSp_c _ (chr_lt ok) _).mono ?_;rintro e w' ⟨rfl,rfl⟩;go_wp2_with fail;refine (next_c h1 ok.pk).mono ?_;rintro e w2 ⟨rfl,h2⟩;go_wp2_with fail;refine (skipV_c h2 191).mono ?_;rintro e w3 ⟨rfl,hv⟩;go_wp2_with fail;go_ret;exact ⟨_,rfl,hv⟩
theorem mks_key (ok:L.Ok) (e1:isSep L.chr=false) (e2:isSp L.chr=false) (h0:L.chr ≠ 0) (h1:L.chr ≠ 93) (h2:L.chr ≠ 125) (h3:L.chr ≠ 35) (h4:L.chr ≠ 47) (h5:L.chr ≠ 39) (h6:L.chr ≠ 34):Goes1 181 L L.pk.ign.nxt (plainT 194):=by
 have e_93_325:(((L.chr:Nat):Int) == 93)=false:=bqf (by omega);have e_125_325:(((L.chr:Nat):Int) == 125)=false:=bqf (by omega);have e_35_325:(((L.chr:Nat):Int) == 35)=false:=bqf (by omega);have e_47_325:(((L.chr:Nat):Int) == 47)=false:=bqf (by omega);have e_39_325:(((L.chr:Nat):Int) == 39)=false:=bqf (by omega);have e_34_325:(((L.chr:Nat):Int) == 34)=false:=bqf (by omega);have e_0_325:(((L.chr:Nat):Int) == 0)=false:=bqf (by omega);clear h0 h1 h2 h3 h4 h5 h6;intro base S0 w0 w b h0;go_enter Tryz.func181,Tryz.ntmps181;go_wp2_with fail;refine (peek_c h0 ok).mono ?_;rintro e w1 ⟨rfl,h1⟩;go_wp2_with fail;refine (isSep_c _ (chr_lt ok) _).mono ?_;rintro e w' ⟨rfl,rfl⟩;go_wp2_with fail;refine (isSp_c _ (chr_lt ok) _).mono ?_;rintro e w' ⟨rfl,rfl⟩;go_wp2_with fail;refine (ign_c h1).mono ?_;rintro e w2 ⟨rfl,h2⟩;go_wp2_with fail;refine (next_c h2 ok.pk.ign).mono ?_;rintro e w3 ⟨rfl,h3⟩;go_wp2_with fail;go_ret;exact ⟨_,rfl,h3.plain _⟩
theorem mk_more (ok:L.Ok) (e1:isSp L.chr=false) (e2:isSep L.chr=false) (h1:L.chr ≠ 0):Goes1 194 L L.pk.nxt (plainT 194):=by
 have e_0_325:(((L.chr:Nat):Int) == 0)=false:=bqf (by omega);clear h1;intro base S0 w0 w b h0;go_enter Tryz.func194,Tryz.ntmps194;go_wp2_with fail;refine (peek_c h0 ok).mono ?_;rintro e w1 ⟨rfl,h1⟩;go_wp2_with fail;refine (isSp_c _ (chr_lt ok) _).mono ?_;rintro e w' ⟨rfl,rfl⟩;go_wp2_with fail;refine (isSep_c _ (chr_lt ok) _).mono ?_;rintro e w' ⟨rfl,rfl⟩;go_wp2_with fail;refine (next_c h1 ok.pk).mono ?_;rintro e w2 ⟨rfl,h2⟩;go_wp2_with fail;go_ret;exact ⟨_,rfl,h2.plain _⟩
set_option maxRecDepth 100000 in
theorem kck2_c {base:Nat} {S0:Nat→Prop} {w0 w:World} {b:Nat} (h:At base S0 w0 w b L) (ok:L.Ok) (rdy:L.Rdy) (n m:Nat) (hk:noKw L.txt) :
  Calls Tryz.prog 164 #[.pointer (some ⟨b,0,none⟩),fnV n,fnV m] w fun e w'=>e=.returned (fnV n)∧At base S0 w0 w' b (L.emit 3 L.txt):=by
 have c0:=h.c0;have c1:=h.c1;have c2:=h.c2;have hsm:=ok.small;have hpp:=ok.pos;have hst:=rdy.start;have ha:=toList_txt L ok;have hk2:(Lib.toLowerA L.txt.data.toList == [105,110,99,108,117,100,101])=false:=hk;have hsz:L.txt.size≤140737488355328:=by unfold LX.txt;simp;omega
 obtain ⟨t,ht⟩:∃ t,t=L.txt:=⟨_,rfl⟩;have ht2:L.inp.extract L.start L.pos=t:=ht.symm;rw [← ht] at ha hk2 hsz ⊢;have HA:=Lib.hid ha;have HR:=Lib.hid rdy;have HT:=Lib.hid ht;clear ha ht hk;go_enter Tryz.func164,Tryz.ntmps164;go_wp2;refine wp_still_tail 13 mixed (by kernel_rfl) ?_;simp only [List.take_succ_cons,List.take_zero,List.drop_succ_cons,List.drop_zero]
 repeat still_step
 refine wpStill_nil ?_;go_wp2_with fail;refine (Tryz.strings_ToLower_ascii t _ hsz HA.out).mono ?_;rintro e w1 ⟨rfl,hb⟩;have h1:=At.below (h.drewN 1) hb;clear c0 c1 c2 hb;go_wp2_with fail;have he:=emit_c 3 h1 ok HR.out.parts HR.out.start HR.out.q;rw [← HT.out] at he;refine he.mono ?_;rintro e w2 ⟨rfl,h2⟩;go_wp2;go_ret;exact ⟨rfl,h2⟩
theorem mk_sp (ok:L.Ok) (rdy:L.Rdy) (e1:isSp L.chr=true) (hk:noKw L.pk.txt) (h0:L.chr ≠ 0):Goes1 194 L (L.pk.emit 3 L.pk.txt) (plainT 206):=by
 have HK:=Lib.hid hk;have e_0_325:(((L.chr:Nat):Int) == 0)=false:=bqf (by omega);clear hk h0;intro base S0 w0 w b h0;go_enter Tryz.func194,Tryz.ntmps194;go_wp2_with fail;refine (peek_c h0 ok).mono ?_;rintro e w1 ⟨rfl,h1⟩;go_wp2_with fail;refine (isSp_c _ (chr_lt ok) _).mono ?_;rintro e w' ⟨rfl,rfl⟩;go_wp2_with fail;refine (kck2_c h1 ok.pk ⟨(by simpa [nxt_parts,pk_parts] using rdy.parts),(by have:=rdy.start;simp only [pk_start,pk_pos];omega),(by simpa [nxt_q,pk_q] using rdy.q)⟩ 206 207 HK.out).mono ?_;rintro e w2 ⟨rfl,h2⟩;go_wp2_with fail;go_ret;exact ⟨_,rfl,h2.plain _⟩
theorem mk_sep (ok:L.Ok) (rdy:L.Rdy) (e1:isSp L.chr=false) (e2:isSep L.chr=true) (h0:L.chr ≠ 0):Goes1 194 L (L.pk.emit 3 L.pk.txt) (plainT 206):=by
 have e_0_325:(((L.chr:Nat):Int) == 0)=false:=bqf (by omega);clear h0;intro base S0 w0 w b h0;go_enter Tryz.func194,Tryz.ntmps194;go_wp2_with fail;refine (peek_c h0 ok).mono ?_;rintro e w1 ⟨rfl,h1⟩;go_wp2_with fail;refine (isSp_c _ (chr_lt ok) _).mono ?_;rintro e w' ⟨rfl,rfl⟩;go_wp2_with fail;refine (isSep_c _ (chr_lt ok) _).mono ?_;rintro e w' ⟨rfl,rfl⟩;go_wp2_with fail;refine (emit_c 3 h1 ok.pk (by simpa [nxt_parts,pk_parts] using rdy.parts) (by have:=rdy.start;simp only [pk_start,pk_pos];omega) (by simpa [nxt_q,pk_q] using rdy.q)).mono ?_;rintro e w2 ⟨rfl,h2⟩;go_wp2_with fail;go_ret;exact ⟨_,rfl,h2.plain _⟩
theorem mke_sp (ok:L.Ok) (e1:isSp L.chr=true):Goes1 206 L L.nxt (skipT 206):=by
 intro base S0 w0 w b h0;go_enter Tryz.func206,Tryz.ntmps206;go_wp2_with fail;refine (next_c h0 ok).mono ?_;rintro e w1 ⟨rfl,h1⟩;go_wp2_with fail;refine (isSp_c _ (chr_lt ok) _).mono ?_;rintro e w' ⟨rfl,rfl⟩;go_wp2_with fail;refine (skipV_c h1 206).mono ?_;rintro e w2 ⟨rfl,hv⟩;go_wp2_with fail;go_ret;exact ⟨_,rfl,hv⟩
theorem mke_sep (ok:L.Ok) (e1:isSp L.chr=false) (e2:isSep L.chr=true):Goes1 206 L L.nxt (skipT 214):=by
 intro base S0 w0 w b h0;go_enter Tryz.func206,Tryz.ntmps206;go_wp2_with fail;refine (next_c h0 ok).mono ?_;rintro e w1 ⟨rfl,h1⟩;go_wp2_with fail;refine (isSp_c _ (chr_lt ok) _).mono ?_;rintro e w' ⟨rfl,rfl⟩;go_wp2_with fail;refine (isSep_c _ (chr_lt ok) _).mono ?_;rintro e w' ⟨rfl,rfl⟩;go_wp2_with fail;refine (skipV_c h1 214).mono ?_;rintro e w2 ⟨rfl,hv⟩;go_wp2_with fail;go_ret;exact ⟨_,rfl,hv⟩
theorem mke_other (ok:L.Ok) (e1:isSp L.chr=false) (e2:isSep L.chr=false):Goes1 206 L L.pk (plainT 214):=by
 intro base S0 w0 w b h0;go_enter Tryz.func206,Tryz.ntmps206;go_wp2_with fail;refine (next_c h0 ok).mono ?_;rintro e w1 ⟨rfl,h1⟩;go_wp2_with fail;refine (isSp_c _ (chr_lt ok) _).mono ?_;rintro e w' ⟨rfl,rfl⟩;go_wp2_with fail;refine (isSep_c _ (chr_lt ok) _).mono ?_;rintro e w' ⟨rfl,rfl⟩;go_wp2_with fail;refine (back_c h1 ok.nxt (nxt_width _)).mono ?_;rintro e w2 ⟨rfl,h2⟩;rw [nxt_back] at h2;go_wp2_with fail;go_ret;exact ⟨_,rfl,h2.plain _⟩
theorem mv_sp (ok:L.Ok) (e1:isSp L.chr=true):Goes1 214 L L.nxt (skipT 214):=by
 intro base S0 w0 w b h0;go_enter Tryz.func214,Tryz.ntmps214;go_wp2_with fail;refine (next_c h0 ok).mono ?_;rintro e w1 ⟨rfl,h1⟩;go_wp2_with fail;refine (isSp_c _ (chr_lt ok) _).mono ?_;rintro e w' ⟨rfl,rfl⟩;go_wp2_with fail;refine (skipV_c h1 214).mono ?_;rintro e w2 ⟨rfl,hv⟩;go_wp2_with fail;go_ret;exact ⟨_,rfl,hv⟩
theorem mv_other (ok:L.Ok) (hst:L.stack.length≤1000000) (e1:isSp L.chr=false) (h1:L.chr ≠ 44) (h2:L.chr ≠ 125):Goes1 214 L (L.pk.psh 207) (plainT 174):=by
 have e_44_325:(((L.chr:Nat):Int) == 44)=false:=bqf (by omega);have e_125_325:(((L.chr:Nat):Int) == 125)=false:=bqf (by omega);clear h1 h2;intro base S0 w0 w b h0;go_enter Tryz.func214,Tryz.ntmps214;go_wp2_with fail;refine (next_c h0 ok).mono ?_;rintro e w1 ⟨rfl,h1⟩;go_wp2_with fail;refine (isSp_c _ (chr_lt ok) _).mono ?_;rintro e w' ⟨rfl,rfl⟩;go_wp2_with fail;refine (back_c h1 ok.nxt (nxt_width _)).mono ?_;rintro e w2 ⟨rfl,h2⟩;rw [nxt_back] at h2;go_wp2_with fail;refine (push_c h2 207 (by rw [pk_stack];exact hst)).mono ?_;rintro e w3 ⟨rfl,h3⟩;go_wp2_with fail;go_ret;exact ⟨_,rfl,h3.plain _⟩
theorem mve_ws (ok:L.Ok) (e1:isWS L.chr=true):Goes1 207 L L.nxt (skipT 207):=by
 intro base S0 w0 w b h0;go_enter Tryz.func207,Tryz.ntmps207;go_wp2_with fail;refine (next_c h0 ok).mono ?_;rintro e w1 ⟨rfl,h1⟩;go_wp2_with fail;refine (isWS_c _ (chr_lt ok) _).mono ?_;rintro e w' ⟨rfl,rfl⟩;go_wp2_with fail;refine (skipV_c h1 207).mono ?_;rintro e w2 ⟨rfl,hv⟩;go_wp2_with fail;go_ret;exact ⟨_,rfl,hv⟩
theorem mve_nl (ok:L.Ok) (hc:L.chr=10):Goes1 207 L L.nxt (skipT 181):=by
 have e_35_325:(((L.chr:Nat):Int) == 35)=false:=bqf (by omega);have e_47_325:(((L.chr:Nat):Int) == 47)=false:=bqf (by omega);have e_59_325:(((L.chr:Nat):Int) == 59)=false:=bqf (by omega);have e_44_325:(((L.chr:Nat):Int) == 44)=false:=bqf (by omega);have e_a:isWS L.chr=false:=by rw [hc];rfl
 have e_b:isNLb L.chr=true:=by rw [hc];rfl
 clear hc;intro base S0 w0 w b h0;go_enter Tryz.func207,Tryz.ntmps207;go_wp2_with fail;refine (next_c h0 ok).mono ?_;rintro e w1 ⟨rfl,h1⟩;go_wp2_with fail;refine (isWS_c _ (chr_lt ok) _).mono ?_;rintro e w' ⟨rfl,rfl⟩;go_wp2_with fail;refine (isNLb_c _ (chr_lt ok) _).mono ?_;rintro e w' ⟨rfl,rfl⟩;go_wp2_with fail;refine (skipV_c h1 181).mono ?_;rintro e w2 ⟨rfl,hv⟩;go_wp2_with fail;go_ret;exact ⟨_,rfl,hv⟩
theorem mve_semi (ok:L.Ok) (hc:L.chr=59):Goes1 207 L L.nxt (skipT 181):=by
 have e_35_325:(((L.chr:Nat):Int) == 35)=false:=bqf (by omega);have e_47_325:(((L.chr:Nat):Int) == 47)=false:=bqf (by omega);have e_59_325:(((L.chr:Nat):Int) == 59)=true:=beq_iff_eq.2 (by omega);have e_a:isWS L.chr=false:=by rw [hc];rfl
 clear hc;intro base S0 w0 w b h0;go_enter Tryz.func207,Tryz.ntmps207;go_wp2_with fail;refine (next_c h0 ok).mono ?_;rintro e w1 ⟨rfl,h1⟩;go_wp2_with fail;refine (isWS_c _ (chr_lt ok) _).mono ?_;rintro e w' ⟨rfl,rfl⟩;go_wp2_with fail;refine (skipV_c h1 181).mono ?_;rintro e w2 ⟨rfl,hv⟩;go_wp2_with fail;go_ret;exact ⟨_,rfl,hv⟩
theorem mve_comma (ok:L.Ok) (hc:L.chr=44):Goes1 207 L L.nxt (skipT 181):=by
 have e_35_325:(((L.chr:Nat):Int) == 35)=false:=bqf (by omega);have e_47_325:(((L.chr:Nat):Int) == 47)=false:=bqf (by omega);have e_59_325:(((L.chr:Nat):Int) == 59)=false:=bqf (by omega);have e_44_325:(((L.chr:Nat):Int) == 44)=true:=beq_iff_eq.2 (by omega);have e_a:isWS L.chr=false:=by rw [hc];rfl
 clear hc;intro base S0 w0 w b h0;go_enter Tryz.func207,Tryz.ntmps207;go_wp2_with fail;refine (next_c h0 ok).mono ?_;rintro e w1 ⟨rfl,h1⟩;go_wp2_with fail;refine (isWS_c _ (chr_lt ok) _).mono ?_;rintro e w' ⟨rfl,rfl⟩;go_wp2_with fail;refine (skipV_c h1 181).mono ?_;rintro e w2 ⟨rfl,hv⟩;go_wp2_with fail;go_ret;exact ⟨_,rfl,hv⟩
theorem me_go (ok:L.Ok) (rdy:L.Rdy) (st:List Nat) (n:Nat) (hst:L.stack=st ++ [n]) (hl:st.length≤1000000):Goes1 191 L ((L.ign.emit 13 L.ign.txt).stk st) (plainT n):=by
 intro base S0 w0 w b h0;go_enter Tryz.func191,Tryz.ntmps191;go_wp2_with fail;refine (ign_c h0).mono ?_;rintro e w1 ⟨rfl,h1⟩;go_wp2_with fail;refine (emit_c 13 h1 ok.ign (by show L.parts=[];exact rdy.parts) (Nat.le_refl _) (by show L.q.length < 10;exact rdy.q)).mono ?_;rintro e w2 ⟨rfl,h2⟩;go_wp2_with fail;refine (pop_c st n h2 (by show L.stack=_;exact hst) hl).mono ?_;rintro e w3 ⟨rfl,h3⟩;go_wp2_with fail;go_ret;exact ⟨_,rfl,h3.plain _⟩
theorem av_sp (ok:L.Ok) (e1:isSp L.chr=true):Goes1 180 L L.nxt (skipT 180):=by
 intro base S0 w0 w b h0;go_enter Tryz.func180,Tryz.ntmps180;go_wp2_with fail;refine (next_c h0 ok).mono ?_;rintro e w1 ⟨rfl,h1⟩;go_wp2_with fail;refine (isSp_c _ (chr_lt ok) _).mono ?_;rintro e w' ⟨rfl,rfl⟩;go_wp2_with fail;refine (skipV_c h1 180).mono ?_;rintro e w2 ⟨rfl,hv⟩;go_wp2_with fail;go_ret;exact ⟨_,rfl,hv⟩
theorem av_end (ok:L.Ok) (hc:L.chr=93):Goes1 180 L L.nxt (plainT 189):=by
 have e_35_325:(((L.chr:Nat):Int) == 35)=false:=bqf (by omega);have e_47_325:(((L.chr:Nat):Int) == 47)=false:=bqf (by omega);have e_44_325:(((L.chr:Nat):Int) == 44)=false:=bqf (by omega);have e_93_325:(((L.chr:Nat):Int) == 93)=true:=beq_iff_eq.2 (by omega);have e_a:isSp L.chr=false:=by rw [hc];rfl
 clear hc;intro base S0 w0 w b h0;go_enter Tryz.func180,Tryz.ntmps180;go_wp2_with fail;refine (next_c h0 ok).mono ?_;rintro e w1 ⟨rfl,h1⟩;go_wp2_with fail;refine (isSp_c _ (chr_lt ok) _).mono ?_;rintro e w' ⟨rfl,rfl⟩;go_wp2_with fail;go_ret;exact ⟨_,rfl,h1.plain _⟩
theorem ae_comma (ok:L.Ok) (hc:L.chr=44):Goes1 190 L L.nxt (skipT 180):=by
 have e_35_325:(((L.chr:Nat):Int) == 35)=false:=bqf (by omega);have e_47_325:(((L.chr:Nat):Int) == 47)=false:=bqf (by omega);have e_44_325:(((L.chr:Nat):Int) == 44)=true:=beq_iff_eq.2 (by omega);have e_a:isWS L.chr=false:=by rw [hc];rfl
 clear hc;intro base S0 w0 w b h0;go_enter Tryz.func190,Tryz.ntmps190;go_wp2_with fail;refine (next_c h0 ok).mono ?_;rintro e w1 ⟨rfl,h1⟩;go_wp2_with fail;refine (isWS_c _ (chr_lt ok) _).mono ?_;rintro e w' ⟨rfl,rfl⟩;go_wp2_with fail;refine (skipV_c h1 180).mono ?_;rintro e w2 ⟨rfl,hv⟩;go_wp2_with fail;go_ret;exact ⟨_,rfl,hv⟩
theorem ae_nl (ok:L.Ok) (hc:L.chr=10):Goes1 190 L L.nxt (skipT 180):=by
 have e_35_325:(((L.chr:Nat):Int) == 35)=false:=bqf (by omega);have e_47_325:(((L.chr:Nat):Int) == 47)=false:=bqf (by omega);have e_44_325:(((L.chr:Nat):Int) == 44)=false:=bqf (by omega);have e_a:isWS L.chr=false:=by rw [hc];rfl
 have e_b:isNLb L.chr=true:=by rw [hc];rfl
 clear hc;intro base S0 w0 w b h0;go_enter Tryz.func190,Tryz.ntmps190;go_wp2_with fail;refine (next_c h0 ok).mono ?_;rintro e w1 ⟨rfl,h1⟩;go_wp2_with fail;refine (isWS_c _ (chr_lt ok) _).mono ?_;rintro e w' ⟨rfl,rfl⟩;go_wp2_with fail;refine (isNLb_c _ (chr_lt ok) _).mono ?_;rintro e w' ⟨rfl,rfl⟩;go_wp2_with fail;refine (skipV_c h1 180).mono ?_;rintro e w2 ⟨rfl,hv⟩;go_wp2_with fail;go_ret;exact ⟨_,rfl,hv⟩
theorem ae_end (ok:L.Ok) (hc:L.chr=93):Goes1 190 L L.nxt (plainT 189):=by
 have e_35_325:(((L.chr:Nat):Int) == 35)=false:=bqf (by omega);have e_47_325:(((L.chr:Nat):Int) == 47)=false:=bqf (by omega);have e_44_325:(((L.chr:Nat):Int) == 44)=false:=bqf (by omega);have e_93_325:(((L.chr:Nat):Int) == 93)=true:=beq_iff_eq.2 (by omega);have e_a:isWS L.chr=false:=by rw [hc];rfl
 have e_b:isNLb L.chr=false:=by rw [hc];rfl
 clear hc;intro base S0 w0 w b h0;go_enter Tryz.func190,Tryz.ntmps190;go_wp2_with fail;refine (next_c h0 ok).mono ?_;rintro e w1 ⟨rfl,h1⟩;go_wp2_with fail;refine (isWS_c _ (chr_lt ok) _).mono ?_;rintro e w' ⟨rfl,rfl⟩;go_wp2_with fail;refine (isNLb_c _ (chr_lt ok) _).mono ?_;rintro e w' ⟨rfl,rfl⟩;go_wp2_with fail;go_ret;exact ⟨_,rfl,h1.plain _⟩
theorem le_go (ok:L.Ok) (rdy:L.Rdy) (st:List Nat) (n:Nat) (hst:L.stack=st ++ [n]) (hl:st.length≤1000000):Goes1 189 L ((L.ign.emit 11 L.ign.txt).stk st) (plainT n):=by
 intro base S0 w0 w b h0;go_enter Tryz.func189,Tryz.ntmps189;go_wp2_with fail;refine (ign_c h0).mono ?_;rintro e w1 ⟨rfl,h1⟩;go_wp2_with fail;refine (emit_c 11 h1 ok.ign (by show L.parts=[];exact rdy.parts) (Nat.le_refl _) (by show L.q.length < 10;exact rdy.q)).mono ?_;rintro e w2 ⟨rfl,h2⟩;go_wp2_with fail;refine (pop_c st n h2 (by show L.stack=_;exact hst) hl).mono ?_;rintro e w3 ⟨rfl,h3⟩;go_wp2_with fail;go_ret;exact ⟨_,rfl,h3.plain _⟩
end
end Go.Cf
