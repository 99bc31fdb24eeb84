/-
  Texts joined: Dh Di Dj Dk.
-/
import Derived.Test.YtackodbeohaidaaGreatDoorZq03
import Derived.Test.YtackodbeohaidaaGreatDoorZq020
import Derived.WalkArith
namespace Go.Cf
open Go.RowKit Go.Conc Go.Proofs
theorem info5:(Tryz.prog.info? 5).map (fun i=>(i.zero,i.size,i.bytes))=some (some (.int .u8 0),1,1):=by kernel_rfl
theorem and_mask {n k:Nat} (hn:n < 18446744073709551616) (hk:k≤59):bits .and .u64 (n:Int) (IntKind.u64.wrap (IntKind.u64.wrap (2 ^ k) - 1))=((n % 2 ^ k:Nat):Int):=by
 have h1:(2:Nat) ^ k≤2 ^ 59:=Nat.pow_le_pow_right (by decide) hk;have hp:=Nat.two_pow_pos k;have e1:IntKind.u64.wrap (2 ^ k)=((2 ^ k:Nat):Int):=by
  rw [IntKind.wrap_u64];have:((2:Int) ^ k)=((2 ^ k:Nat):Int):=by simp
  rw [this];omega
 have e2:IntKind.u64.wrap (((2 ^ k:Nat):Int) - 1)=((2 ^ k - 1:Nat):Int):=by
  rw [IntKind.wrap_u64];omega
 rw [e1,e2];unfold bits;have e3:∀ m:Nat,m < 18446744073709551616→(BitVec.ofInt IntKind.u64.bits (m:Int)).toNat=m:=fun m hm=>by
  show (BitVec.ofInt 64 (m:Int)).toNat=m
  rw [BitVec.toNat_ofInt];omega
 have e4:n &&& (2 ^ k - 1)=n % 2 ^ k:=Nat.and_two_pow_sub_one_eq_mod n k;simp only [BitVec.toNat_and];rw [e3 n hn,e3 (2 ^ k - 1) (by omega),e4,IntKind.wrap_u64];have:=Nat.mod_lt n hp;omega
structure Hf (k:Nat) (ds:List Nat) (i0:Nat) (out:List Nat) (n:Nat):Prop where
 eq:dv out * (2 ^ k * 10) + n=pv ds (i0 + out.length)
 lt:n < 2 ^ k * 10
 dg:Dg out
 h0:out=[]→2 ^ k≤n
 h1:out ≠ []→out.getD 0 0 ≠ 0
 dvd:ds.length≤i0 + out.length→2 ^ (i0 + out.length - ds.length) ∣ n
 le:out ≠ []→i0 + out.length≤ds.length + 64
theorem p59 {k:Nat} (h:k≤59):2 ^ k≤576460752303423488:=Nat.pow_le_pow_right (by decide) h
theorem dig_lt {ds:List Nat} (hg:Dg ds) (i:Nat):ds.getD i 0 < 10:=by
 rw [List.getD_eq_getElem?_getD]
 cases h:ds[i]? with
 | none=>decide
 | some d=>exact hg d (List.mem_of_getElem? h)
theorem Hf.start {k i0:Nat} {ds:List Nat} (h1:2 ^ k≤pv ds i0) (h2:pv ds i0 < 2 ^ k * 10):Hf k ds i0 [] (pv ds i0):=by
 refine ⟨by rw [dv_nil,Nat.zero_mul,Nat.zero_add];rfl,h2,Dg.nil,fun _=>h1,fun h=>absurd rfl h,fun h=>?_,fun h=>absurd rfl h⟩;rw [List.length_nil,Nat.add_zero] at h ⊢;rw [pv_ge h,show (10:Nat)=2 * 5 from rfl,Nat.mul_pow];exact ⟨dv ds * 5 ^ (i0 - ds.length),by simp only [Nat.mul_assoc,Nat.mul_comm]⟩
theorem Hf.far {k i0 n:Nat} {ds out:List Nat} (h:Hf k ds i0 out n) (hk:k≤59) (hgo:i0 + out.length < ds.length ∨ 0 < n):i0 + out.length < ds.length + 64:=by
 rcases hgo with hg | hg
 ·omega
 ·rcases Nat.lt_or_ge (i0 + out.length) ds.length with h1 | h1
  ·omega
  ·have h2:=Nat.le_of_dvd hg (h.dvd h1);have h3:=h.lt;have h4:=p59 hk;rcases Nat.lt_or_ge (i0 + out.length - ds.length) 64 with h5 | h5
   ·omega
   ·have h6:2 ^ 64≤2 ^ (i0 + out.length - ds.length):=Nat.pow_le_pow_right (by decide) h5;omega
theorem Hf.next {k i0 n:Nat} {ds out:List Nat} (h:Hf k ds i0 out n) (hk:k≤59) (hg:Dg ds) (hgo:i0 + out.length < ds.length ∨ 0 < n) :
  Hf k ds i0 (out ++ [n / 2 ^ k]) (n % 2 ^ k * 10 + ds.getD (i0 + out.length) 0)∧n / 2 ^ k < 10:=by
 have hfar:=h.far hk hgo;have hp:=p2 k;have hd:=dig_lt hg (i0 + out.length);have hq:n / 2 ^ k < 10:=Nat.div_lt_of_lt_mul h.lt;have hmod:=Nat.mod_lt n hp;have hdm:=Nat.div_add_mod n (2 ^ k);refine ⟨⟨?_,by omega,h.dg.snoc hq,fun e=>by simp at e,fun _=>?_,fun hle=>?_,fun _=>?_⟩,hq⟩
 ·have e0:pv ds (i0 + (out.length + 1))=10 * pv ds (i0 + out.length) + ds.getD (i0 + out.length) 0:=rfl;rw [dv_snoc,List.length_append,List.length_singleton,e0,← h.eq];have e1:(10 * dv out + n / 2 ^ k) * (2 ^ k * 10)=10 * (dv out * (2 ^ k * 10)) + 10 * (2 ^ k * (n / 2 ^ k)):=by
   rw [Nat.add_mul,Nat.mul_assoc]
   congr 1
   simp only [Nat.mul_assoc,Nat.mul_comm,Nat.mul_left_comm]
  rw [e1];omega
 ·rcases Decidable.em (out=[]) with e | e
  ·subst e;have:=h.h0 rfl;have h1:1≤n / 2 ^ k:=(Nat.le_div_iff_mul_le hp).2 (by omega);show n / 2 ^ k ≠ 0;omega
  ·have:=h.h1 e
   cases out with
   | nil=>exact absurd rfl e
   | cons x r=>exact this
 ·rw [List.length_append,List.length_singleton] at hle ⊢;rcases Nat.lt_or_ge (i0 + out.length) ds.length with h1 | h1
  ·rw [show i0 + (out.length + 1) - ds.length=0 from by omega,Nat.pow_zero];exact Nat.one_dvd _
  ·have e0:ds.getD (i0 + out.length) 0=0:=by rw [List.getD_eq_getElem?_getD,List.getElem?_eq_none h1];rfl
   rw [e0,Nat.add_zero,show i0 + (out.length + 1) - ds.length=i0 + out.length - ds.length + 1 from by omega,Nat.pow_succ];have h2:=h.dvd h1;rcases Nat.lt_or_ge k (i0 + out.length - ds.length) with h3 | h3
   ·have h4:2 ^ k ∣ n:=Nat.dvd_trans (Nat.pow_dvd_pow 2 (Nat.le_of_lt h3)) h2;rw [Nat.mod_eq_zero_of_dvd h4,Nat.zero_mul];exact Nat.dvd_zero _
   ·have h4:2 ^ (i0 + out.length - ds.length) ∣ n % 2 ^ k:=(Nat.dvd_mod_iff (Nat.pow_dvd_pow 2 h3)).2 h2;exact Nat.mul_dvd_mul h4 ⟨5,rfl⟩
 ·rw [List.length_append,List.length_singleton];omega
section
variable {lab lab1:Lab} {w w1:World} {b:Nat} {ds:List Nat} {dp:Int}
theorem pv_lo (h:ds.getD 0 0 ≠ 0):∀ i,10 ^ i≤pv ds (i + 1)
 | 0=>by
  show 1≤10 * 0 + ds.getD 0 0
  omega
 | i + 1=>by
  have:=pv_lo h i;rw [pv,Nat.pow_succ];omega
set_option maxRecDepth 100000 in
set_option maxHeartbeats 4000000 in
theorem half_c {dp p e k:Nat} (h:DAt lab w b ds dp) (hd:Dec ds dp p e) (hk:2 ^ (e + k)≤8 * p) (hk59:k≤59) (hl:ds.length≤100000) (hdp:dp≤100000):Calls Tryz.prog 157 #[.pointer (some ⟨b,0,none⟩),.int .i64 (k:Int)] w fun e' w' =>
  e'=.returned (.tuple #[])∧∃ ds' dp' lab',DAt lab' w' b ds' (dp':Nat)∧Dec ds' dp' p (e + k)∧ds'.length≤ds.length + 64∧Mv DM w lab w' lab':=by
 obtain ⟨ℓ,A,c,hℓ,h1,h2⟩:=h;obtain ⟨ℓ',hℓ'⟩:∃ ℓ',ℓ'=123 - ℓ:=⟨_,rfl⟩;have hℓ0:¬ ℓ=60∧¬ ℓ'=60∧¬ ℓ=ℓ'∧(ℓ'=61 ∨ ℓ'=62):=by omega
 have HL:=Lib.hid (aI hℓ hℓ0);clear hℓ hℓ' hℓ0;have q0:w.cell? ⟨b,0,none⟩=some (.slice A ds.length c):=h1.cell 0;have q1:w.cell? ⟨b,1,none⟩=some (.int .i64 dp):=h1.cell 1;have f1:w.frozen? ⟨b,1,none⟩=false:=h1.free 1;have hk0:(0:Int)≤(k:Int):=Int.natCast_nonneg _;have hk64:(k:Int) < 64:=by omega
 have H:=Lib.hid (aI h1 (aI h2 hd));have HK:=Lib.hid hk;clear h1 h2 hd hk;go_enter Tryz.func157,Tryz.ntmps157;go_wp2;go_loopw [4,5] (fun s4 s5 wr=>∃ i n:Nat,s4=.int .u64 n∧s5=.int .i64 i∧wr=w∧i≤20∧n=pv ds i∧n < 2 ^ k * 10) (fun _ s5 _=>100 - (RowKit.intOf s5).toNat)
 case atStart=>exact ⟨0,0,rfl,rfl,rfl,by decide,rfl,by have:=p2 k;omega⟩
 case round =>
  obtain ⟨i,n,rfl,rfl,hw,hi,hpv,hlt10⟩:=hrel;have hw':=hw.symm;subst hw';clear hw;have hp59:=p59 hk59;have hg:=H.out.2.2.dg;have hne:=H.out.2.2.ne;have hhd:=H.out.2.2.hd;by_cases hc:n < 2 ^ k
  ·have hq0:(n:Int) / 2 ^ k=0:=Int.ediv_eq_zero_of_lt (Int.natCast_nonneg _) (by exact_mod_cast hc);have hi18:i≤18:=by
    cases i with
    | zero=>decide
    | succ j =>
     have h1:=pv_lo hhd j;rw [← hpv] at h1;rcases Nat.lt_or_ge j 18 with h2 | h2
     ·omega
     ·have h3:10 ^ 18≤10 ^ j:=Nat.pow_le_pow_right (by decide) h2;omega
   have hn0:(0:Int)≤(n:Int):=Int.natCast_nonneg _;have hn1:(n:Int)≤576460752303423488:=by omega
   have hi0:(0:Int)≤(i:Int):=Int.natCast_nonneg _;have hi1:(i:Int)≤18:=by omega
   have hnx:pv ds (i + 1)=10 * n + ds.getD i 0:=by rw [pv,← hpv]
   have hdl:=dig_lt hg i;by_cases hil:i < ds.length
   ·obtain ⟨d,hdx⟩:∃ d,ds[i]?=some d:=⟨_,List.getElem?_eq_getElem hil⟩;obtain ⟨g,rfl,hcell⟩:=H.out.2.1.at hdx;rw [List.getD_eq_getElem?_getD,hdx,Option.getD_some] at hnx hdl;have hil':(i:Int) < (ds.length:Int):=by omega
    have hd0:(0:Int)≤(d:Int):=Int.natCast_nonneg _;have hd9:(d:Int)≤9:=by omega
    have hp1:=p2 k;clear hpv hlt10 hg hne hhd hp59 hdx;go_wp2;go_roundw
    case rel=>exact ⟨i + 1,10 * n + d,by go_num,by go_num,trivial,by omega,hnx.symm,by omega⟩
    case measure=>simp [RowKit.intOf];omega
   ·have hil':¬ ((i:Int) < (ds.length:Int)):=by omega
    have hnz:0 < n:=by
     cases i with
     | zero=>exact absurd (List.length_pos_iff.2 hne) (by omega)
     | succ j =>
      have h1:=pv_lo hhd j;rw [← hpv] at h1;have:=p10 j;omega
    have hnz':¬ ((n:Int)=0):=by omega
    have e0:ds.getD i 0=0:=by rw [List.getD_eq_getElem?_getD,List.getElem?_eq_none (by omega)];rfl
    rw [e0] at hnx;clear hpv hlt10 hg hne hhd hp59;go_wp2;go_roundw
    case rel=>exact ⟨i + 1,10 * n,by go_num,by go_num,trivial,by omega,hnx.symm,by omega⟩
    case measure=>simp [RowKit.intOf];omega
  ·have hge:2 ^ k≤n:=by omega
   have hq1:¬ ((n:Int) / 2 ^ k=0):=by
    have h1:1≤n / 2 ^ k:=(Nat.le_div_iff_mul_le (p2 k)).2 (by omega);have h2:((n / 2 ^ k:Nat):Int)=(n:Int) / 2 ^ k:=by simp
    omega
   have hqb:((n:Int) / 2 ^ k == 0)=false:=bqf hq1;clear hq1;have hi0:1≤i:=by
    cases i with
    | zero =>
     have:=p2 k;have e:pv ds 0=0:=rfl;omega
    | succ j=>omega
   have hst:Hf k ds i [] n:=by
    rw [hpv] at hge hlt10 ⊢;exact Hf.start hge hlt10
   have c2:=H.out.1.set 1 (.int .i64 ((dp:Int) - ((i:Int) - 1)));have m2:Mv DM w lab (w.setCell ⟨b,1,none⟩ (.int .i64 ((dp:Int) - ((i:Int) - 1)))) lab:=Mv.setCell _ _ _ _ (.inl H.out.1.2);have m2':Mv (·=60) w lab (w.setCell ⟨b,1,none⟩ (.int .i64 ((dp:Int) - ((i:Int) - 1)))) lab:=Mv.setCell _ _ _ _ H.out.1.2;have HS:=Lib.hid (aI hst (aI c2 (aI (H.out.2.1.mv m2' HL.out.2.1) m2)));have hi1:(1:Int)≤(i:Int):=by omega
   have hi2:(i:Int)≤20:=by omega
   have hdp1:(dp:Int)≤100000:=by omega
   have hdp0:(0:Int)≤(dp:Int):=Int.natCast_nonneg _;clear hg hne hhd hc hge hpv hlt10 hst c2 m2 m2' hp59;go_wp2;go_loopw [4,5,6] (fun s4 s5 s6 wz=>∃ (n2 q:Nat) (out:List Nat) (labz:Lab),s4=.int .u64 n2∧s5=.int .i64 (q:Int)∧q=i + out.length∧Hf k ds i out n2∧Cl 60 labz wz b #[.slice A ds.length c,.int .i64 ((dp:Int) - ((i:Int) - 1))] 207∧DgR ℓ labz wz A ds c∧Rw 0 ℓ' labz wz 5 1 s6 out.length (dig out)∧Mv DM w lab wz labz) (fun _ s5 _ _=>ds.length + 100 - (RowKit.intOf s5).toNat)
   case atStart=>exact ⟨n,i,[],lab,rfl,rfl,rfl,HS.out.1,HS.out.2.1,HS.out.2.2.1,⟨⟨by simp [dig],.inl ⟨rfl,rfl⟩⟩,fun k hk=>by cases hk⟩,HS.out.2.2.2⟩
   case round =>
    obtain ⟨n2,q,out,labz,rfl,rfl,hq,hf,hcl,hdg,hrw,hm⟩:=hrel;have q0z:wr.cell? ⟨b,0,none⟩=some (.slice A ds.length c):=hcl.cell 0;have f0z:wr.frozen? ⟨b,0,none⟩=false:=hcl.free 0;have hn20:(0:Int)≤(n2:Int):=Int.natCast_nonneg _;have hn21:(n2:Int)≤5764607523034234880:=by
     have:=hf.lt;have:=p59 hk59;omega
    have hq0:(0:Int)≤(q:Int):=Int.natCast_nonneg _;have HZ:=Lib.hid (aI hf (aI hcl (aI hdg (aI hrw hm))));by_cases hgo:q < ds.length ∨ 0 < n2
    ·have hfar:=hf.far hk59 (by rw [← hq];exact hgo);rw [← hq] at hfar;obtain ⟨hnx,h10⟩:=hf.next hk59 H.out.2.2.dg (by rw [← hq];exact hgo);rw [← hq] at hnx;have hown:=hrw.1;have hlo:out.length + 1≤200000:=by omega
     have HN:=Lib.hid hnx;obtain ⟨x,hx⟩:∃ x,x=n2 / 2 ^ k:=⟨_,rfl⟩;have hx':(n2:Int) / 2 ^ k=(x:Int):=by rw [hx];simp
     have hx0:(0:Int)≤(x:Int):=Int.natCast_nonneg _;have hx9:(x:Int)≤9:=by omega
     have HXX:=Lib.hid hx;have HQ:=Lib.hid hq;clear hq hx h10 hf hcl hdg hrw hm hnx;by_cases hql:q < ds.length
     ·have hql':(q:Int) < (ds.length:Int):=by omega
      go_wp2_with (at_builtin;refine app_one 0 rfl _ _ 27 5 (.int .u8 0) 1 1 rfl Tryz.underlying27 info5 rfl (by decide) (by decide) u6 out.length (dig out) [.int .u8 (x:Int)] rfl rfl rfl (by simp;rfl) hown (Nat.zero_le _) (by omega) ?_)
      intro v1 w1 hown1 hg1 hat1;have m1:Mv (·=ℓ') wr labz w1 (labz.ext wr.heap.size ℓ'):=Mv.grown hg1 labz ℓ' (fun k hk=>HZ.out.2.2.2.1.2 k hk);have hc1:=HZ.out.2.1.mv m1 (fun e=>HL.out.2.2.1 e.symm);have hr1:=HZ.out.2.2.2.1.appended hown1 hg1 hat1;have q0y:w1.cell? ⟨b,0,none⟩=some (.slice A ds.length c):=hc1.cell 0;have hdg1:=HZ.out.2.2.1.mv m1 HL.out.2.2.2.1;obtain ⟨d,hdx⟩:∃ d,ds[q]?=some d:=⟨_,List.getElem?_eq_getElem hql⟩;obtain ⟨g,hgA,hcell⟩:=hdg1.at hdx;subst hgA;have hdl:=dig_lt H.out.2.2.dg q;have hnx:=HN.out;rw [List.getD_eq_getElem?_getD,hdx,Option.getD_some] at hdl hnx;obtain ⟨y,hy⟩:∃ y,y=n2 % 2 ^ k:=⟨_,rfl⟩;have hym:=Nat.mod_lt n2 (p2 k);have hmask:=and_mask (n:=n2) (k:=k) (by omega) hk59;rw [← hy] at hmask hym hnx;rw [← HXX.out] at hnx;have hy0:(0:Int)≤(y:Int):=Int.natCast_nonneg _;have hy1:(y:Int)≤576460752303423488:=by have:=p59 hk59;omega
      have hd0:(0:Int)≤(d:Int):=Int.natCast_nonneg _;have hd9:(d:Int)≤9:=by omega
      have mm:Mv DM w lab w1 (labz.ext wr.heap.size ℓ'):=HZ.out.2.2.2.2.trans m1 (fun x e=>.inr (e ▸ HL.out.2.2.2.2));have HR:=Lib.hid (aI hnx (aI hc1 (aI hdg1 (aI hr1 mm))));clear hnx hc1 hdg1 hr1 mm m1 hown1 hg1 hat1 hy hym hdx hown hdl;go_wp2;go_roundw
      case rel=>exact ⟨y * 10 + d,q + 1,out ++ [x],_,by go_num,by go_num,by rw [HQ.out,List.length_append,List.length_singleton];omega,HR.out.1,HR.out.2.1,HR.out.2.2.1,by simpa [dig] using HR.out.2.2.2.1,HR.out.2.2.2.2⟩
      case measure=>simp [RowKit.intOf];omega
     ·have hql':¬ ((q:Int) < (ds.length:Int)):=by omega
      have hn2p:0 < n2:=by omega
      have hn2p':(0:Int) < (n2:Int):=by omega
      have hqd:decide ((q:Int) < (ds.length:Int))=false:=decide_eq_false hql';go_wp2_with (at_builtin;refine app_one 0 rfl _ _ 27 5 (.int .u8 0) 1 1 rfl Tryz.underlying27 info5 rfl (by decide) (by decide) u6 out.length (dig out) [.int .u8 (x:Int)] rfl rfl rfl (by simp;rfl) hown (Nat.zero_le _) (by omega) ?_);intro v1 w1 hown1 hg1 hat1;have m1:Mv (·=ℓ') wr labz w1 (labz.ext wr.heap.size ℓ'):=Mv.grown hg1 labz ℓ' (fun k hk=>HZ.out.2.2.2.1.2 k hk);have hc1:=HZ.out.2.1.mv m1 (fun e=>HL.out.2.2.1 e.symm);have hr1:=HZ.out.2.2.2.1.appended hown1 hg1 hat1;have q0y:w1.cell? ⟨b,0,none⟩=some (.slice A ds.length c):=hc1.cell 0;have hdg1:=HZ.out.2.2.1.mv m1 HL.out.2.2.2.1;have hnx:=HN.out;rw [List.getD_eq_getElem?_getD,List.getElem?_eq_none (by omega),Option.getD_none,Nat.add_zero] at hnx;obtain ⟨y,hy⟩:∃ y,y=n2 % 2 ^ k:=⟨_,rfl⟩;have hym:=Nat.mod_lt n2 (p2 k);have hmask:=and_mask (n:=n2) (k:=k) (by omega) hk59;rw [← hy] at hmask hym hnx;rw [← HXX.out] at hnx;have hy0:(0:Int)≤(y:Int):=Int.natCast_nonneg _;have hy1:(y:Int)≤576460752303423488:=by have:=p59 hk59;omega
      have mm:Mv DM w lab w1 (labz.ext wr.heap.size ℓ'):=HZ.out.2.2.2.2.trans m1 (fun x e=>.inr (e ▸ HL.out.2.2.2.2));have HR:=Lib.hid (aI hnx (aI hc1 (aI hdg1 (aI hr1 mm))));clear hnx hc1 hdg1 hr1 mm m1 hown1 hg1 hat1 hy hym hown hgo;go_wp2;go_roundw
      case rel=>exact ⟨y * 10,q + 1,out ++ [x],_,by go_num,by go_num,by rw [HQ.out,List.length_append,List.length_singleton];omega,HR.out.1,HR.out.2.1,HR.out.2.2.1,by simpa [dig] using HR.out.2.2.2.1,HR.out.2.2.2.2⟩
      case measure=>simp [RowKit.intOf];omega
    ·have hql:¬ q < ds.length:=fun e=>hgo (.inl e)
     have hn2z:n2=0:=by omega
     subst hn2z;have hql':¬ ((q:Int) < (ds.length:Int)):=by omega
     have hone:out ≠ []:=fun e=>by
      have:=hf.h0 e;have:=p2 k;omega
     have heq:=hf.eq;rw [Nat.add_zero] at heq;obtain ⟨hi0d,hval⟩:=half_eq H.out.2.2 HK.out (by rw [← hq];omega) heq hf.dg;have hle:=hf.le hone;obtain ⟨g,cap,hu6,_,_⟩:=hrw.1.form (List.length_pos_iff.2 hone);subst hu6;have hc1:=hcl.set 0 (.slice (some ⟨g,0,none⟩) out.length cap);have m1:Mv (·=60) wr labz (wr.setCell ⟨b,0,none⟩ (.slice (some ⟨g,0,none⟩) out.length cap)) labz:=Mv.setCell _ _ _ _ hcl.2;have hD:DAt labz (wr.setCell ⟨b,0,none⟩ (.slice (some ⟨g,0,none⟩) out.length cap)) b out ((dp:Int) - ((i:Int) - 1)):=⟨ℓ',_,cap,HL.out.2.2.2.2,hc1,hrw.mv m1 HL.out.2.2.1⟩;have HT:=Lib.hid (trim_c hD (by omega));have HF:=Lib.hid (aI hone (aI hi0d (aI hval (aI hle (aI hf (hm.trans m1 (fun x e=>.inl e)))))));clear hf hcl hdg hrw hm hc1 m1 hD hone hi0d hval hle heq hgo hq;go_wp2_with fail;refine HT.out.mono ?_;rintro ex w4 ⟨rfl,ds',ht,hd4,m4⟩;have hdec:=Dec.of_trim ht HF.out.2.2.2.2.1.dg HF.out.1 (HF.out.2.2.2.2.1.h1 HF.out.1) HF.out.2.2.1;have hle4:ds'.length≤out.length:=by
      obtain ⟨z,e,_⟩:=ht;rw [e,List.length_append];omega
     rw [if_neg hdec.ne] at hd4;have hfin:∃ ds' dp' lab',DAt lab' w4 b ds' (dp':Nat)∧Dec ds' dp' p (e + k)∧ds'.length≤ds.length + 64∧Mv DM w lab w4 lab':=by
      refine ⟨ds',dp + 1 - i,labz,?_,hdec,by have:=HF.out.2.2.2.1;omega,HF.out.2.2.2.2.2.trans m4 (fun x e=>.inl e)⟩;have e1:((dp + 1 - i:Nat):Int)=(dp:Int) - ((i:Int) - 1):=by have:=HF.out.2.1;omega
      rw [e1];exact hd4
     have HFI:=Lib.hid hfin;clear hfin hdec hle4 ht hd4 m4;go_wp2;go_end0;exact ⟨rfl,HFI.out⟩
end
structure Hd (k:Nat) (ds out:List Nat) (n:Nat):Prop where
 eq:dv (ds.drop (ds.length - out.length)) * 2 ^ k=dv out.reverse + n * 10 ^ out.length
 lt:n≤2 ^ k
 dg:Dg out
 la:ds.length≤out.length→n=0→out.reverse.getD 0 0 ≠ 0
 mul:ds.length≤out.length→n * 10 ^ (out.length - ds.length)≤2 ^ k
 le:out.length≤ds.length + 20
theorem Hd.start {k:Nat} {ds:List Nat} (hne:ds ≠ []):Hd k ds [] 0:=by
 have hl:0 < ds.length:=List.length_pos_iff.2 hne;refine ⟨?_,Nat.zero_le _,Dg.nil,fun h=>?_,fun h=>?_,Nat.zero_le _⟩
 ·rw [List.length_nil,Nat.sub_zero,List.drop_length,dv_nil];simp [dv_nil]
 ·rw [List.length_nil] at h;omega
 ·rw [List.length_nil] at h;omega
theorem Hd.far {k n:Nat} {ds out:List Nat} (h:Hd k ds out n) (hk:k≤59) (hgo:out.length < ds.length ∨ 0 < n):out.length < ds.length + 20:=by
 rcases Nat.lt_or_ge out.length ds.length with h1 | h1
 ·omega
 ·have hn:0 < n:=by omega
  have h2:=h.mul h1;have h3:=Nat.mul_le_mul_right (10 ^ (out.length - ds.length)) hn;have h4:=p59 hk;rcases Nat.lt_or_ge (out.length - ds.length) 18 with h5 | h5
  ·omega
  ·have h6:10 ^ 18≤10 ^ (out.length - ds.length):=Nat.pow_le_pow_right (by decide) h5;omega
theorem Hd.next {k n d:Nat} {ds out:List Nat} (h:Hd k ds out n) (hlt:out.length < ds.length) (hd:ds[ds.length - 1 - out.length]?=some d) (hd9:d < 10) (hhd:ds.getD 0 0 ≠ 0) :
  Hd k ds (out ++ [(n + d * 2 ^ k) % 10]) ((n + d * 2 ^ k) / 10):=by
 have hp:=p2 k;have hl:=h.lt;have hb:n + d * 2 ^ k≤10 * 2 ^ k:=by
  have:d * 2 ^ k≤9 * 2 ^ k:=Nat.mul_le_mul_right _ (by omega);omega
 have hdm:=Nat.div_add_mod (n + d * 2 ^ k) 10;have hm:=Nat.mod_lt (n + d * 2 ^ k) (show 0 < 10 by decide);have hlen:(out ++ [(n + d * 2 ^ k) % 10]).length=out.length + 1:=by simp
 have hdrop:ds.drop (ds.length - (out.length + 1))=d :: ds.drop (ds.length - out.length):=by
  have e1:ds.length - (out.length + 1)=ds.length - 1 - out.length:=by omega
  have e2:ds.length - out.length=ds.length - 1 - out.length + 1:=by omega
  rw [e1,e2,List.drop_eq_getElem_cons (by omega)]
  congr 1
  rw [List.getElem?_eq_getElem (by omega)] at hd;exact Option.some.inj hd
 have hdl:(ds.drop (ds.length - out.length)).length=out.length:=by rw [List.length_drop];omega
 refine ⟨?_,by omega,h.dg.snoc hm,fun hle hz=>?_,fun hle=>?_,?_⟩
 ·rw [hlen,hdrop,dv_cons,hdl,List.reverse_append,List.reverse_singleton,List.singleton_append,dv_cons,List.length_reverse,Nat.add_mul,h.eq,Nat.pow_succ];have e1:d * 10 ^ out.length * 2 ^ k=d * 2 ^ k * 10 ^ out.length:=by rw [Nat.mul_right_comm]
  have e2:(n + d * 2 ^ k) / 10 * (10 ^ out.length * 10)=10 * ((n + d * 2 ^ k) / 10) * 10 ^ out.length:=by rw [Nat.mul_comm (10 ^ out.length),← Nat.mul_assoc,Nat.mul_comm ((n + d * 2 ^ k) / 10)]
  have e3:(10 * ((n + d * 2 ^ k) / 10) + (n + d * 2 ^ k) % 10) * 10 ^ out.length=(n + d * 2 ^ k) * 10 ^ out.length:=by rw [hdm]
  rw [Nat.add_mul,Nat.add_mul] at e3;rw [e1,e2];omega
 ·rw [hlen] at hle;rw [List.reverse_append,List.reverse_singleton,List.singleton_append];show (n + d * 2 ^ k) % 10 ≠ 0;have hd0:ds[0]?=some d:=by
   rw [← hd]
   congr 1
   omega
  have:d ≠ 0:=by
   rw [List.getD_eq_getElem?_getD,hd0] at hhd;exact hhd
  have:1 * 2 ^ k≤d * 2 ^ k:=Nat.mul_le_mul_right _ (by omega);omega
 ·rw [hlen] at hle ⊢;rw [show out.length + 1 - ds.length=0 from by omega,Nat.pow_zero];omega
 ·rw [hlen];omega
theorem Hd.next0 {k n:Nat} {ds out:List Nat} (h:Hd k ds out n) (hk:k≤59) (hge:ds.length≤out.length) (hn:0 < n):Hd k ds (out ++ [n % 10]) (n / 10):=by
 have hfar:=h.far hk (.inr hn);have hl:=h.lt;have hdm:=Nat.div_add_mod n 10;have hm:=Nat.mod_lt n (show 0 < 10 by decide);have hlen:(out ++ [n % 10]).length=out.length + 1:=by simp
 have he:=h.eq;refine ⟨?_,by omega,h.dg.snoc hm,fun _ hz=>?_,fun hle=>?_,by rw [hlen];omega⟩
 ·rw [hlen,show ds.length - (out.length + 1)=0 from by omega];rw [show ds.length - out.length=0 from by omega] at he;rw [he,List.reverse_append,List.reverse_singleton,List.singleton_append,dv_cons,List.length_reverse,Nat.pow_succ];have e2:n / 10 * (10 ^ out.length * 10)=10 * (n / 10) * 10 ^ out.length:=by rw [Nat.mul_comm (10 ^ out.length),← Nat.mul_assoc,Nat.mul_comm (n / 10)]
  have e3:(10 * (n / 10) + n % 10) * 10 ^ out.length=n * 10 ^ out.length:=by rw [hdm]
  rw [Nat.add_mul] at e3;rw [e2];omega
 ·rw [List.reverse_append,List.reverse_singleton,List.singleton_append];show n % 10 ≠ 0;omega
 ·rw [hlen];have hmul:=h.mul hge;rw [show out.length + 1 - ds.length=out.length - ds.length + 1 from by omega,Nat.pow_succ];have e2:n / 10 * (10 ^ (out.length - ds.length) * 10)=10 * (n / 10) * 10 ^ (out.length - ds.length):=by rw [Nat.mul_comm (10 ^ _),← Nat.mul_assoc,Nat.mul_comm (n / 10)]
  rw [e2];exact Nat.le_trans (Nat.mul_le_mul_right _ (by omega)) hmul
def RvAt (out:List Nat) (i:Nat) (cur:List Nat):Prop:=cur.length=out.length∧∀ q,q < out.length→cur[q]?=if q < i ∨ out.length≤q + i then out[out.length - 1 - q]? else out[q]?
theorem RvAt.start (out:List Nat):RvAt out 0 out:=⟨rfl,fun q hq=>by rw [if_neg (by omega)]⟩
theorem RvAt.fin {out cur:List Nat} {i:Nat} (h:RvAt out i cur) (hi:out.length≤2 * i + 1):cur=out.reverse:=by
 refine List.ext_getElem? fun q=>?_
 rcases Nat.lt_or_ge q out.length with hq | hq
 ·rw [h.2 q hq,List.getElem?_reverse hq]
  split
  ·rfl
  ·rw [show out.length - 1 - q=q from by omega]
 ·rw [List.getElem?_eq_none (by rw [h.1];exact hq),List.getElem?_eq_none (by simpa using hq)]
theorem RvAt.next {out cur:List Nat} {i x y:Nat} (h:RvAt out i cur) (hi:2 * i + 1 < out.length) (hx:cur[i]?=some x) (hy:cur[out.length - 1 - i]?=some y):RvAt out (i + 1) ((cur.set i y).set (out.length - 1 - i) x):=by
 refine ⟨by simpa using h.1,fun q hq=>?_⟩;have hxi:=h.2 i (by omega);have hyi:=h.2 (out.length - 1 - i) (by omega);rw [if_neg (by omega),hx] at hxi;rw [if_neg (by omega),hy] at hyi;rw [List.getElem?_set,List.getElem?_set];by_cases h1:out.length - 1 - i=q
 ·subst h1;rw [if_pos rfl,if_pos (by rw [List.length_set,h.1];omega),if_pos (by omega),show out.length - 1 - (out.length - 1 - i)=i from by omega];exact hxi
 ·rw [if_neg h1];by_cases h2:i=q
  ·subst h2;rw [if_pos rfl,if_pos (by rw [h.1];omega),if_pos (by omega)];exact hyi
  ·rw [if_neg h2,h.2 q hq];by_cases h3:q < i ∨ out.length≤q + i
   ·rw [if_pos h3,if_pos (by omega)]
   ·rw [if_neg h3,if_neg (by omega)]
theorem Dg.set {l:List Nat} (h:Dg l) {i d:Nat} (hd:d < 10):Dg (l.set i d):=fun x hx=>by
 rcases List.mem_or_eq_of_mem_set hx with hx | rfl
 ·exact h x hx
 ·exact hd
section
variable {lab lab1:Lab} {w w1:World} {b ℓ:Nat} {ds:List Nat} {dp:Int}
theorem DgR.setAt {g c i d:Nat} (h:DgR ℓ lab w (some ⟨g,0,none⟩) ds c):DgR ℓ lab (w.setCell ⟨g,i,none⟩ (.int .u8 (d:Int))) (some ⟨g,0,none⟩) (ds.set i d) c∧(∀ M:Nat→Prop,M ℓ→Mv M w lab (w.setCell ⟨g,i,none⟩ (.int .u8 (d:Int))) lab)∧w.frozen? ⟨g,i,none⟩=false:=by
 obtain ⟨⟨hx,⟨h0,_⟩ | ⟨g',cap',cur,hv,hb,hblk,h1,h2,h3,h4⟩⟩,hl⟩:=h
 ·cases h0
 ·simp only [Value.slice.injEq,Option.some.injEq,Addr.mk.injEq] at hv;obtain ⟨⟨rfl,_,_⟩,_,rfl⟩:=hv;have hlab:lab g=ℓ:=hl g rfl;refine ⟨⟨⟨by simp [dig],.inr ⟨g,c,_,by rw [List.length_set],hb,blk_setCell hblk _ _,by simpa using h1,h2,by simpa using h3,?_⟩⟩,fun k hk=>hl k hk⟩,fun M hM=>Mv.setCell _ _ _ _ (by rw [hlab];exact hM),?_⟩
  ·rw [Array.toList_setIfInBounds,List.take_set,List.length_set,h4];unfold dig;rw [List.map_set]
  ·have hcl:Cl (lab g) lab w g cur 5:=⟨hblk,rfl⟩;exact hcl.free i
set_option maxRecDepth 100000 in
set_option maxHeartbeats 4000000 in
theorem double_c {dp p e k:Nat} (h:DAt lab w b ds dp) (hd:Dec ds dp p e) (hk59:k≤59) (hl:ds.length≤100000) (hdp:dp≤100000):Calls Tryz.prog 158 #[.pointer (some ⟨b,0,none⟩),.int .i64 (k:Int)] w fun e' w' =>
  e'=.returned (.tuple #[])∧∃ ds' dp' lab',DAt lab' w' b ds' (dp':Nat)∧Dec ds' dp' (p * 2 ^ k) e∧ds'.length≤ds.length + 20∧Mv DM w lab w' lab':=by
 obtain ⟨ℓ,A,c,hℓ,h1,h2⟩:=h;obtain ⟨ℓ',hℓ'⟩:∃ ℓ',ℓ'=123 - ℓ:=⟨_,rfl⟩;have hℓ0:¬ ℓ=60∧¬ ℓ'=60∧¬ ℓ=ℓ'∧(ℓ'=61 ∨ ℓ'=62):=by omega
 have HL:=Lib.hid (aI hℓ hℓ0);clear hℓ hℓ' hℓ0;have q0:w.cell? ⟨b,0,none⟩=some (.slice A ds.length c):=h1.cell 0;have hk0:(0:Int)≤(k:Int):=Int.natCast_nonneg _;have hk64:(k:Int) < 64:=by omega
 have hl0:(0:Int)≤(ds.length:Int):=Int.natCast_nonneg _;have hl1:(ds.length:Int)≤100000:=by omega
 have H:=Lib.hid (aI h1 (aI h2 hd));clear h1 h2 hd;go_enter Tryz.func158,Tryz.ntmps158;go_wp2;go_loopw [4,5,6] (fun s4 s5 s6 wz=>∃ (n j:Nat) (i:Int) (out:List Nat) (labz:Lab),s4=.int .u64 (n:Int)∧s6=.int .i64 i∧j=out.length∧i=(ds.length:Int) - 1 - (j:Int)∧Hd k ds out n∧Cl 60 labz wz b #[.slice A ds.length c,.int .i64 (dp:Int)] 207∧DgR ℓ labz wz A ds c∧Rw 0 ℓ' labz wz 5 1 s5 out.length (dig out)∧Mv DM w lab wz labz) (fun _ _ s6 _=>(RowKit.intOf s6 + 100).toNat)
 case atStart=>exact ⟨0,0,_,[],lab,rfl,rfl,rfl,by omega,Hd.start H.out.2.2.ne,H.out.1,H.out.2.1,⟨⟨by simp [dig],.inl ⟨rfl,rfl⟩⟩,fun k hk=>by cases hk⟩,Mv.refl _ _ _⟩
 case round =>
  obtain ⟨n,j,i,out,labz,rfl,rfl,hj,hi,hf,hcl,hdg,hrw,hm⟩:=hrel;have q0z:wr.cell? ⟨b,0,none⟩=some (.slice A ds.length c):=hcl.cell 0;have hn0:(0:Int)≤(n:Int):=Int.natCast_nonneg _;have hn1:(n:Int)≤576460752303423488:=by
   have:=hf.lt;have:=p59 hk59;omega
  have hle:=hf.le;have hi0:-100≤i:=by omega
  have hi1:i≤100000:=by omega
  have hlo:out.length + 1≤200000:=by omega
  have hown:=hrw.1;by_cases hgo:0≤i ∨ 0 < n
  ·by_cases hi2:0≤i
   ·obtain ⟨iq,hiq⟩:∃ iq:Nat,i=(iq:Int):=⟨i.toNat,by omega⟩;have hx:∃ d,ds[iq]?=some d:=⟨_,List.getElem?_eq_getElem (by omega)⟩;obtain ⟨d,hdx⟩:=hx;obtain ⟨g,hgA,hcell⟩:=hdg.at hdx;subst hgA;have hd9:d < 10:=H.out.2.2.dg d (List.mem_of_getElem? hdx);have hnx:=hf.next (d:=d) (by omega) (by rw [← hdx];congr 1;omega) hd9 H.out.2.2.hd;obtain ⟨z,hz⟩:∃ z,z=d * 2 ^ k:=⟨_,rfl⟩;have hz':(d:Int) * 2 ^ k=(z:Int):=by rw [hz];simp
    have hz1:(z:Int)≤5188146770730811392:=by
     have h1:=p59 hk59;have h2:d * 2 ^ k≤9 * 2 ^ k:=Nat.mul_le_mul_right _ (by omega);rw [hz];omega
    have hz0:(0:Int)≤(z:Int):=Int.natCast_nonneg _;rw [← hz] at hnx;have hd0:(0:Int)≤(d:Int):=Int.natCast_nonneg _;have hd9':(d:Int)≤9:=by omega
    obtain ⟨x,hxx⟩:∃ x,x=(n + z) % 10:=⟨_,rfl⟩;obtain ⟨y,hy⟩:∃ y,y=(n + z) / 10:=⟨_,rfl⟩;rw [← hxx,← hy] at hnx;have HZ:=Lib.hid (aI hnx (aI hcl (aI hdg (aI hrw (aI hm (aI hj hi))))));have hxm:((n:Int) + (z:Int)) % 10=(x:Int):=by omega
    have hym:((n:Int) + (z:Int)) / 10=(y:Int):=by omega
    have hx0:(0:Int)≤(x:Int):=Int.natCast_nonneg _;have hx9:(x:Int)≤9:=by omega
    have HXY:=Lib.hid (aI hxx hy);have hil:(iq:Int) < (ds.length:Int):=by omega
    have hiq0:(0:Int)≤(iq:Int):=Int.natCast_nonneg _;clear hf hcl hdg hrw hm hj hi hnx hz hxx hy hdx hi2 hgo;subst hiq;go_wp2_with (at_builtin;refine app_one 0 rfl _ _ 27 5 (.int .u8 0) 1 1 rfl Tryz.underlying27 info5 rfl (by decide) (by decide) u5 out.length (dig out) [.int .u8 (x:Int)] rfl rfl rfl (by simp;rfl) hown (Nat.zero_le _) (by omega) ?_);intro v1 w1 hown1 hg1 hat1;have m1:Mv (·=ℓ') wr labz w1 (labz.ext wr.heap.size ℓ'):=Mv.grown hg1 labz ℓ' (fun k hk=>HZ.out.2.2.2.1.2 k hk);have hc1:=HZ.out.2.1.mv m1 (fun e=>HL.out.2.2.1 e.symm);have hr1:=HZ.out.2.2.2.1.appended hown1 hg1 hat1;have hdg1:=HZ.out.2.2.1.mv m1 HL.out.2.2.2.1;have mm:Mv DM w lab w1 (labz.ext wr.heap.size ℓ'):=HZ.out.2.2.2.2.1.trans m1 (fun x e=>.inr (e ▸ HL.out.2.2.2.2));have HR:=Lib.hid (aI hc1 (aI hdg1 (aI hr1 mm)));clear hc1 hdg1 hr1 mm m1 hown1 hg1 hat1 hown;go_wp2;go_roundw
    case rel=>exact ⟨y,j + 1,(iq:Int) - 1,out ++ [x],_,by rw [hym],by go_num,by rw [HZ.out.2.2.2.2.2.1];simp,by have:=HZ.out.2.2.2.2.2.2;omega,HZ.out.1,HR.out.1,HR.out.2.1,by simpa [dig] using HR.out.2.2.1,HR.out.2.2.2⟩
    case measure=>simp [RowKit.intOf];omega
   ·have hn2:0 < n:=by omega
    have hge:ds.length≤out.length:=by omega
    have hnx:=hf.next0 hk59 hge hn2;obtain ⟨x,hxx⟩:∃ x,x=n % 10:=⟨_,rfl⟩;obtain ⟨y,hy⟩:∃ y,y=n / 10:=⟨_,rfl⟩;rw [← hxx,← hy] at hnx;have HZ:=Lib.hid (aI hnx (aI hcl (aI hdg (aI hrw (aI hm (aI hj hi))))));have hxm:(n:Int) % 10=(x:Int):=by omega
    have hym:(n:Int) / 10=(y:Int):=by omega
    have hx0:(0:Int)≤(x:Int):=Int.natCast_nonneg _;have hx9:(x:Int)≤9:=by omega
    have hfar:=hf.far hk59 (.inr hn2);have hi3:-50≤i:=by omega
    have hid:decide (0≤i)=false:=decide_eq_false hi2;have hn2':(0:Int) < (n:Int):=by omega
    clear hf hcl hdg hrw hm hj hi hnx hxx hy hgo;go_wp2_with (at_builtin;refine app_one 0 rfl _ _ 27 5 (.int .u8 0) 1 1 rfl Tryz.underlying27 info5 rfl (by decide) (by decide) u5 out.length (dig out) [.int .u8 (x:Int)] rfl rfl rfl (by simp;rfl) hown (Nat.zero_le _) (by omega) ?_);intro v1 w1 hown1 hg1 hat1;have m1:Mv (·=ℓ') wr labz w1 (labz.ext wr.heap.size ℓ'):=Mv.grown hg1 labz ℓ' (fun k hk=>HZ.out.2.2.2.1.2 k hk);have hc1:=HZ.out.2.1.mv m1 (fun e=>HL.out.2.2.1 e.symm);have hr1:=HZ.out.2.2.2.1.appended hown1 hg1 hat1;have hdg1:=HZ.out.2.2.1.mv m1 HL.out.2.2.2.1;have mm:Mv DM w lab w1 (labz.ext wr.heap.size ℓ'):=HZ.out.2.2.2.2.1.trans m1 (fun x e=>.inr (e ▸ HL.out.2.2.2.2));have HR:=Lib.hid (aI hc1 (aI hdg1 (aI hr1 mm)));clear hc1 hdg1 hr1 mm m1 hown1 hg1 hat1 hown;go_wp2;go_roundw
    case rel=>exact ⟨y,j + 1,i - 1,out ++ [x],_,rfl,rfl,by rw [HZ.out.2.2.2.2.2.1];simp,by have:=HZ.out.2.2.2.2.2.2;omega,HZ.out.1,HR.out.1,HR.out.2.1,by simpa [dig] using HR.out.2.2.1,HR.out.2.2.2⟩
    case measure=>simp [RowKit.intOf];omega
  ·have hi2:¬ 0≤i:=fun e=>hgo (.inl e)
   have hn2:n=0:=by omega
   subst hn2;rw [show ((0:Nat):Int)=0 from rfl];have hid:decide (0≤i)=false:=decide_eq_false hi2;have hge:ds.length≤out.length:=by omega
   have hone:0 < out.length:=by have:=List.length_pos_iff.2 H.out.2.2.ne;omega
   have heq:=hf.eq;rw [show ds.length - out.length=0 from by omega,List.drop_zero,Nat.zero_mul,Nat.add_zero] at heq;obtain ⟨g,cap,hu5,_,_⟩:=hrw.1.form hone;subst hu5;have q1z:wr.cell? ⟨b,1,none⟩=some (.int .i64 (dp:Int)):=hcl.cell 1;have f1z:wr.frozen? ⟨b,1,none⟩=false:=hcl.free 1;have hdp0:(0:Int)≤(dp:Int):=Int.natCast_nonneg _;have hdp1:(dp:Int)≤100000:=by omega
   obtain ⟨L,hL⟩:∃ L,L=out.length:=⟨_,rfl⟩;rw [← hL] at hlo hge hone hle;have hL0:(1:Int)≤(L:Int):=by omega
   have hL1:(L:Int)≤200000:=by omega
   have hge':(ds.length:Int)≤(L:Int):=by omega
   have hrw1:DgR ℓ' labz wr (some ⟨g,0,none⟩) out cap:=hrw;obtain ⟨v1,hv1⟩:∃ v:Int,v=(dp:Int) + ((L:Int) - (ds.length:Int)):=⟨_,rfl⟩;have hc1:=hcl.set 1 (.int .i64 v1);have m1:Mv (·=60) wr labz (wr.setCell ⟨b,1,none⟩ (.int .i64 v1)) labz:=Mv.setCell _ _ _ _ hcl.2;have mA:Mv (fun _=>False) (wr.setCell ⟨b,1,none⟩ (.int .i64 v1)) labz (wr.setCell ⟨b,1,none⟩ (.int .i64 v1)).drew labz:=(Mv.refl _ _ _).drewN 1;have hla:=hf.la (by rw [← hL];exact hge) rfl;have HZ:=Lib.hid (aI (hc1.mv mA (fun h=>h)) (aI ((hrw1.mv m1 HL.out.2.2.1).mv mA (fun h=>h)) (aI ((hm.trans m1 (fun x e=>.inl e)).trans mA (fun _ h=>h.elim)) (aI heq (aI hL (aI hf.dg (aI hla hv1)))))));rw [← hL];clear hc1 m1 mA hla hf hcl hdg hrw hrw1 hm heq hL hj hi hown hgo hi2;go_wp2;go_region;rw [← hv1];clear hv1 q0z q1z f1z;go_wp2;go_loopw [7,8] (fun s7 s8 wz=>∃ (i2 jj:Nat) (cur:List Nat),s7=.int .i64 (i2:Int)∧s8=.int .i64 (jj:Int)∧i2 + jj + 1=L∧RvAt out i2 cur∧Dg cur∧Cl 60 labz wz b #[.slice A ds.length c,.int .i64 v1] 207∧DgR ℓ' labz wz (some ⟨g,0,none⟩) cur cap∧Mv DM w lab wz labz) (fun _ s8 _=>(RowKit.intOf s8 + 1).toNat)
   case atStart=>exact ⟨0,L - 1,out,rfl,by go_num,by omega,RvAt.start out,HZ.out.2.2.2.2.2.1,HZ.out.1,HZ.out.2.1,HZ.out.2.2.1⟩
   case round =>
    obtain ⟨i2,jj,cur,rfl,rfl,hij,hrv,hdg,hcl,hrw,hm⟩:=hrel;have hcl':cur.length=L:=by rw [hrv.1,HZ.out.2.2.2.2.1]
    have hi0:(0:Int)≤(i2:Int):=Int.natCast_nonneg _;have hj0:(0:Int)≤(jj:Int):=Int.natCast_nonneg _;have hi1:(i2:Int)≤200000:=by omega
    have hj1:(jj:Int)≤200000:=by omega
    by_cases hlt:i2 < jj
    ·have hlt':(i2:Int) < (jj:Int):=by omega
     obtain ⟨x,hx⟩:∃ x,cur[i2]?=some x:=⟨_,List.getElem?_eq_getElem (by omega)⟩;obtain ⟨y,hy⟩:∃ y,cur[jj]?=some y:=⟨_,List.getElem?_eq_getElem (by omega)⟩;have hjL:(jj:Int) < (L:Int):=by omega
     have hiL:(i2:Int) < (L:Int):=by omega
     obtain ⟨_,hg1,cx⟩:=hrw.at hx;cases hg1;obtain ⟨_,hg2,cy⟩:=hrw.at hy;cases hg2;have fx:=(hrw.setAt (i:=i2) (d:=0)).2.2;have fy:=(hrw.setAt (i:=jj) (d:=0)).2.2;have HQ:=Lib.hid (aI hrv (aI hdg (aI hcl (aI hrw (aI hm (aI hx (aI hy (aI hij hcl'))))))));clear hrv hdg hcl hrw hm hx hy hij hcl';go_wp2;go_region;have hjj:out.length - 1 - i2=jj:=by have:=HQ.out.2.2.2.2.2.2.2.1;have:=HZ.out.2.2.2.2.1;omega
     have hrv2:=HQ.out.1.next (x:=x) (y:=y) (by have:=HQ.out.2.2.2.2.2.2.2.1;have:=HZ.out.2.2.2.2.1;omega) HQ.out.2.2.2.2.2.1 (by rw [hjj];exact HQ.out.2.2.2.2.2.2.1);rw [hjj] at hrv2;have hx9:=HQ.out.2.1 x (List.mem_of_getElem? HQ.out.2.2.2.2.2.1);have hy9:=HQ.out.2.1 y (List.mem_of_getElem? HQ.out.2.2.2.2.2.2.1);have hs1:=HQ.out.2.2.2.1.setAt (i:=i2) (d:=y);have hs2:=hs1.1.setAt (i:=jj) (d:=x);have hm1:=hs1.2.1 (·=ℓ') rfl;have hm2:=hs2.2.1 (·=ℓ') rfl;have mA:Mv (fun _=>False) ((wr.setCell ⟨g,i2,none⟩ (.int .u8 (y:Int))).setCell ⟨g,jj,none⟩ (.int .u8 (x:Int))) labz ((wr.setCell ⟨g,i2,none⟩ (.int .u8 (y:Int))).setCell ⟨g,jj,none⟩ (.int .u8 (x:Int))).drew labz:=(Mv.refl _ _ _).drewN 1;have hfin:Cl 60 labz ((wr.setCell ⟨g,i2,none⟩ (.int .u8 (y:Int))).setCell ⟨g,jj,none⟩ (.int .u8 (x:Int))).drew b #[.slice A ds.length c,.int .i64 v1] 207∧DgR ℓ' labz ((wr.setCell ⟨g,i2,none⟩ (.int .u8 (y:Int))).setCell ⟨g,jj,none⟩ (.int .u8 (x:Int))).drew (some ⟨g,0,none⟩) ((cur.set i2 y).set jj x) cap∧Mv DM w lab ((wr.setCell ⟨g,i2,none⟩ (.int .u8 (y:Int))).setCell ⟨g,jj,none⟩ (.int .u8 (x:Int))).drew labz :=
      ⟨((HQ.out.2.2.1.mv hm1 (fun e=>HL.out.2.2.1 e.symm)).mv hm2 (fun e=>HL.out.2.2.1 e.symm)).mv mA (fun h=>h),hs2.1.mv mA (fun h=>h),((HQ.out.2.2.2.2.1.trans hm1 (fun x e=>.inr (e ▸ HL.out.2.2.2.2))).trans hm2 (fun x e=>.inr (e ▸ HL.out.2.2.2.2))).trans mA (fun _ h=>h.elim)⟩
     have HFI:=Lib.hid (aI hrv2 (aI (((HQ.out.2.1).set (i:=i2) hy9).set (i:=jj) hx9) hfin));clear hjj hrv2 hx9 hy9 hs1 hs2 hm1 hm2 mA hfin;go_wp2;go_roundw
     case rel=>exact ⟨i2 + 1,jj - 1,(cur.set i2 y).set jj x,by go_num,by go_num,by have:=HQ.out.2.2.2.2.2.2.2.1;omega,HFI.out.1,HFI.out.2.1,HFI.out.2.2.1,HFI.out.2.2.2.1,HFI.out.2.2.2.2⟩
     case measure=>simp [RowKit.intOf]
    ·have hlt':¬ ((i2:Int) < (jj:Int)):=by omega
     have hcur:=hrv.fin (by have:=HZ.out.2.2.2.2.1;omega);have q0y:wr.cell? ⟨b,0,none⟩=some (.slice A ds.length c):=hcl.cell 0;have f0y:wr.frozen? ⟨b,0,none⟩=false:=hcl.free 0;have hc1:=hcl.set 0 (.slice (some ⟨g,0,none⟩) L cap);have m1:Mv (·=60) wr labz (wr.setCell ⟨b,0,none⟩ (.slice (some ⟨g,0,none⟩) L cap)) labz:=Mv.setCell _ _ _ _ hcl.2;have hrw2:=hrw.mv m1 HL.out.2.2.1;have hD:DAt labz (wr.setCell ⟨b,0,none⟩ (.slice (some ⟨g,0,none⟩) L cap)) b cur v1:=⟨ℓ',_,cap,HL.out.2.2.2.2,by rw [hcl'];exact hc1,hrw2⟩;have HT:=Lib.hid (trim_c hD (by omega));have HF:=Lib.hid (aI hcur (aI hdg (aI (hm.trans m1 (fun x e=>.inl e)) hcl')));clear hrv hdg hcl hrw hm hc1 m1 hrw2 hD hcur hcl' hij;go_wp2_with fail;refine HT.out.mono ?_;rintro ex w4 ⟨rfl,ds',ht,hd4,m4⟩;have hcr:=HF.out.1;have hlr:cur.length=L:=HF.out.2.2.2;have hhd:cur.getD 0 0 ≠ 0:=by rw [hcr];exact HZ.out.2.2.2.2.2.2.1
     have hne:cur ≠ []:=fun e=>by rw [e] at hlr;simp at hlr;omega
     have hval:=dbl_eq (o:=cur) (k:=k) H.out.2.2 (by rw [hlr];exact hge) (by rw [hcr];exact HZ.out.2.2.2.1.symm);have hdec:=Dec.of_trim ht HF.out.2.1 hne hhd hval;have hle4:ds'.length≤cur.length:=by
      obtain ⟨z,e,_⟩:=ht;rw [e,List.length_append];omega
     rw [if_neg hdec.ne] at hd4;have hfin:∃ ds' dp' lab',DAt lab' w4 b ds' (dp':Nat)∧Dec ds' dp' (p * 2 ^ k) e∧ds'.length≤ds.length + 20∧Mv DM w lab w4 lab':=by
      refine ⟨ds',dp + cur.length - ds.length,labz,?_,hdec,by omega,HF.out.2.2.1.trans m4 (fun x e=>.inl e)⟩;have e1:((dp + cur.length - ds.length:Nat):Int)=v1:=by have:=HZ.out.2.2.2.2.2.2.2;omega
      rw [e1];exact hd4
     have HFI:=Lib.hid hfin;clear hfin hdec hle4 ht hd4 m4 hval hhd hne hcr;go_wp2;go_end0;exact ⟨rfl,HFI.out⟩
end
section
variable {lab lab1:Lab} {w w1:World} {b ℓ:Nat} {ds:List Nat} {dp:Int}
theorem pv_le (ds:List Nat) (i:Nat):∀ k,pv ds i≤pv ds (i + k)
 | 0=>Nat.le_refl _
 | k + 1=>by
  have:=pv_le ds i k;rw [← Nat.add_assoc,pv];omega
set_option maxRecDepth 100000 in
set_option maxHeartbeats 4000000 in
theorem digit_c {i:Nat} (h:DAt lab w b ds dp):Calls Tryz.prog 172 #[.pointer (some ⟨b,0,none⟩),.int .i64 (i:Int)] w fun e w'=>e=.returned (.int .u8 ((ds.getD i 0:Nat):Int))∧w'=w:=by
 obtain ⟨ℓ,A,c,hℓ,h1,h2⟩:=h;have q0:w.cell? ⟨b,0,none⟩=some (.slice A ds.length c):=h1.cell 0;have hi0:(0:Int)≤(i:Int):=Int.natCast_nonneg _;go_enter Tryz.func172,Tryz.ntmps172;by_cases hlt:i < ds.length
 ·have hlt':(i:Int) < (ds.length:Int):=by omega
  obtain ⟨d,hd⟩:∃ d,ds[i]?=some d:=⟨_,List.getElem?_eq_getElem hlt⟩;obtain ⟨g,hg,hcell⟩:=h2.at hd;subst hg;have e0:ds.getD i 0=d:=by rw [List.getD_eq_getElem?_getD,hd];rfl
  rw [e0];clear h1 h2 hd e0;go_wp2;go_ret;exact ⟨rfl,rfl⟩
 ·have hlt':¬ ((i:Int) < (ds.length:Int)):=by omega
  have e0:ds.getD i 0=0:=by rw [List.getD_eq_getElem?_getD,List.getElem?_eq_none (by omega)];rfl
  rw [e0];clear h1 h2 e0;go_wp2;go_ret;exact ⟨rfl,rfl⟩
set_option maxRecDepth 100000 in
set_option maxHeartbeats 4000000 in
theorem nearUp_c {i:Nat} (h:DAt lab w b ds dp) (hl:ds.length≤i):Calls Tryz.prog 173 #[.pointer (some ⟨b,0,none⟩),.int .i64 (i:Int)] w fun e w'=>e=.returned (.bool false)∧w'=w:=by
 obtain ⟨ℓ,A,c,hℓ,h1,h2⟩:=h;have q0:w.cell? ⟨b,0,none⟩=some (.slice A ds.length c):=h1.cell 0;have hi0:(0:Int)≤(i:Int):=Int.natCast_nonneg _;have hge:(ds.length:Int)≤(i:Int):=by omega
 clear h1 h2;go_enter Tryz.func173,Tryz.ntmps173;go_wp2;go_ret;exact ⟨rfl,rfl⟩
set_option maxRecDepth 100000 in
set_option maxHeartbeats 4000000 in
theorem whole_c {dp M:Nat} (h:DAt lab w b ds (dp:Nat)) (hd:Dec ds dp M 0) (hM:M < 2 ^ 62) (hdp:dp≤1000):Calls Tryz.prog 159 #[.pointer (some ⟨b,0,none⟩)] w fun e w'=>e=.returned (.int .u64 (M:Int))∧w'=w:=by
 obtain ⟨hlen,hval⟩:=hd.whole;have hdig:=fun i=>digit_c (i:=i) h
 have hnear:=nearUp_c h hlen;obtain ⟨ℓ,A,c,hℓ,h1,h2⟩:=h;have q1:w.cell? ⟨b,1,none⟩=some (.int .i64 (dp:Int)):=h1.cell 1;have H:=Lib.hid (aI hdig (aI hnear (aI hval hd.dg)));have hdp0:(0:Int)≤(dp:Int):=Int.natCast_nonneg _;clear hdig hnear h1 h2 hval hd;go_enter Tryz.func159,Tryz.ntmps159;go_wp2;go_loopw [3,4] (fun s3 s4 wr=>∃ (i n:Nat),s3=.int .u64 (n:Int)∧s4=.int .i64 (i:Int)∧wr=w∧i≤dp∧n=pv ds i) (fun _ s4 _=>dp - (RowKit.intOf s4).toNat)
 case atStart=>exact ⟨0,0,rfl,rfl,rfl,Nat.zero_le _,rfl⟩
 case round =>
  obtain ⟨i,n,rfl,rfl,hw,hi,hn⟩:=hrel;have hw':=hw.symm;subst hw';clear hw;have hi0:(0:Int)≤(i:Int):=Int.natCast_nonneg _;have hn0:(0:Int)≤(n:Int):=Int.natCast_nonneg _;by_cases hlt:i < dp
  ·have hlt':(i:Int) < (dp:Int):=by omega
   have hnx:pv ds (i + 1)=10 * n + ds.getD i 0:=by rw [pv,← hn]
   have hle:=pv_le ds (i + 1) (dp - (i + 1));rw [show i + 1 + (dp - (i + 1))=dp from by omega,H.out.2.2.1,hnx] at hle;have hd9:=dig_lt H.out.2.2.2 i;obtain ⟨d,hd⟩:∃ d,d=ds.getD i 0:=⟨_,rfl⟩;have hcall:=H.out.1 i;rw [← hd] at hnx hle hd9 hcall;have hd0:(0:Int)≤(d:Int):=Int.natCast_nonneg _;have hd9':(d:Int)≤9:=by omega
   have hb:(n:Int) * 10 + (d:Int)≤4611686018427387904:=by omega
   have HC:=Lib.hid hcall;have HN:=Lib.hid hnx;clear hn hnx hle hcall hd;go_wp2_with fail;refine HC.out.mono ?_;rintro e w2 ⟨rfl,rfl⟩;go_wp2;go_roundw
   case rel=>exact ⟨i + 1,10 * n + d,by go_num,by go_num,trivial,by omega,HN.out.symm⟩
   case measure=>simp [RowKit.intOf];omega
  ·have hlt':¬ ((i:Int) < (dp:Int)):=by omega
   obtain rfl:i=dp:=by omega
   have hM':n=M:=by rw [hn,H.out.2.2.1]
   subst hM';clear hn;go_wp2_with fail;refine H.out.2.1.mono ?_;rintro e w2 ⟨rfl,rfl⟩;go_wp2;go_ret;exact ⟨rfl,rfl⟩
set_option maxRecDepth 100000 in
set_option maxHeartbeats 4000000 in
theorem shift_c {dp p e k:Nat} (h:DAt lab w b ds dp) (hd:Dec ds dp p e) (hk1:1≤k) (hk59:k≤59) (hl:ds.length≤100000) (hdp:dp≤100000):Calls Tryz.prog 155 #[.pointer (some ⟨b,0,none⟩),.int .i64 (k:Int)] w fun e' w' =>
  e'=.returned (.tuple #[])∧∃ ds' dp' lab',DAt lab' w' b ds' (dp':Nat)∧Dec ds' dp' (p * 2 ^ k) e∧ds'.length≤ds.length + 20∧Mv DM w lab w' lab':=by
 have HC:=Lib.hid (double_c h hd hk59 hl hdp);have hk0:(1:Int)≤(k:Int):=by omega
 have hk2:(k:Int)≤59:=by omega
 clear h hd;go_enter Tryz.func155,Tryz.ntmps155;go_wp2;go_loopw [1] (fun s1 wr=>s1=.int .i64 (k:Int)∧wr=w) (fun _ _=>0)
 case atStart=>exact ⟨rfl,rfl⟩
 case round =>
  obtain ⟨rfl,hw⟩:=hrel;have hw':=hw.symm;subst hw';clear hw;go_wp2;go_loopw [1] (fun s1 wr=>s1=.int .i64 (k:Int)∧wr=w) (fun _ _=>0)
  case atStart=>exact ⟨rfl,rfl⟩
  case round =>
   obtain ⟨rfl,hw⟩:=hrel;have hw':=hw.symm;subst hw';clear hw;go_wp2_with fail;refine HC.out.mono ?_;rintro e w2 ⟨rfl,hr⟩;have HR:=Lib.hid hr;clear hr;go_wp2;go_end0;exact ⟨rfl,HR.out⟩
end
theorem ofInt64 {m:Nat} (hm:m < 18446744073709551616):(BitVec.ofInt IntKind.u64.bits (m:Int)).toNat=m:=by
 show (BitVec.ofInt 64 (m:Int)).toNat=m
 rw [BitVec.toNat_ofInt];omega
theorem and_top {M:Nat} (h1:2 ^ 52≤M) (h2:M < 2 ^ 53):bits .and .u64 (M:Int) 4503599627370496=4503599627370496:=by
 unfold bits;simp only [BitVec.toNat_and];rw [ofInt64 (m:=M) (by omega),show (4503599627370496:Int)=((4503599627370496:Nat):Int) from rfl,ofInt64 (m:=4503599627370496) (by decide),show (4503599627370496:Nat)=2 ^ 52 from rfl];have e1:M.testBit 52=true:=by
  rw [Nat.testBit_eq_decide_div_mod_eq,decide_eq_true_eq];omega
 have e2:M &&& 2 ^ 52=2 ^ 52:=by
  refine Nat.eq_of_testBit_eq fun i=>?_
  rw [Nat.testBit_and,Nat.testBit_two_pow];by_cases hi:52=i
  ·subst hi;rw [e1];rfl
  ·simp [hi]
 rw [e2,IntKind.wrap_u64]
 decide
theorem and_low {M:Nat} (h1:2 ^ 52≤M) (h2:M < 2 ^ 53):bits .and .u64 (M:Int) 4503599627370495=((M - 2 ^ 52:Nat):Int):=by
 unfold bits;simp only [BitVec.toNat_and];rw [ofInt64 (m:=M) (by omega),show (4503599627370495:Int)=((2 ^ 52 - 1:Nat):Int) from rfl,ofInt64 (m:=2 ^ 52 - 1) (by decide),Nat.and_two_pow_sub_one_eq_mod,IntKind.wrap_u64];omega
theorem or_exp {r x:Nat} (h1:r < 2 ^ 52) (h2:x < 2048):bits .or .u64 (r:Int) ((x * 4503599627370496:Nat):Int)=((x * 4503599627370496 + r:Nat):Int):=by
 unfold bits;simp only [BitVec.toNat_or];have e1:=Nat.two_pow_add_eq_or_of_lt h1 x;rw [ofInt64 (m:=r) (by omega),ofInt64 (by omega),Nat.or_comm,show x * 4503599627370496=2 ^ 52 * x from by omega,← e1,IntKind.wrap_u64];omega
theorem pow_lt_exp {e n:Nat} (h:2 ^ e < 2 ^ n):e < n:=(Nat.pow_lt_pow_iff_right (by decide)).1 h
theorem loop1_arith {ds:List Nat} {dp' Q e:Nat} (hd:Dec ds (dp' + 1) Q e) (hQ:Q < 2 ^ 30):dp'≤9∧2 ^ (e + 3 * (dp' + 1))≤8 * Q∧e + 3 * (dp' + 1)≤33:=by
 have hk:=hd.half3;refine ⟨?_,hk,?_⟩
 ·have hlo:=hd.lo;rcases Nat.lt_or_ge dp' 10 with hx | hx
  ·omega
  ·exfalso
   have e1:10 ^ 11≤10 ^ (dp' + 1):=Nat.pow_le_pow_right (by decide) (by omega);have e2:=Nat.mul_le_mul e1 (p2 e);generalize 10 ^ (dp' + 1) * 2 ^ e=z at hlo e2;omega
 ·generalize e + 3 * (dp' + 1)=n at hk
  have h34:2 ^ n < 2 ^ 34:=by
   refine Nat.lt_of_le_of_lt hk ?_;have:8 * Q < 8 * 2 ^ 30:=Nat.mul_lt_mul_of_pos_left hQ (by decide);exact Nat.lt_of_lt_of_le this (by decide)
  have:=pow_lt_exp h34;omega
theorem loop2_arith {ds ds2:List Nat} {dp2 Q e:Nat} (hd:Dec ds 0 Q e) (h5:ds.getD 0 0 < 5) (hd2:Dec ds2 dp2 (Q * 2 ^ 1) e):dp2=0∧∃ e',e=e' + 1∧Dec ds2 0 Q e':=by
 rw [Nat.pow_one] at hd2;have hlo:=hd.lo;rw [Nat.pow_zero,Nat.one_mul] at hlo;exact hd2.dbl1 (hd.first.1 h5) (by omega)
theorem end_arith {ds:List Nat} {Q e:Nat} (hd:Dec ds 0 Q e) (h5:¬ ds.getD 0 0 < 5) (hQ:Q < 2 ^ 30):2 ^ e≤2 * Q∧Q < 2 ^ e∧1≤e∧e≤31:=by
 have h1:=hd.first.2 (by omega);have h2:=hd.hi;rw [Nat.pow_zero,Nat.one_mul] at h2;have h3:=hd.pos;refine ⟨h1,h2,?_,?_⟩
 ·cases e with
  | zero=>rw [Nat.pow_zero] at h2;omega
  | succ e=>omega
 ·have h31:2 ^ e < 2 ^ 31:=by
   refine Nat.lt_of_le_of_lt h1 ?_;have:2 * Q < 2 * 2 ^ 30:=Nat.mul_lt_mul_of_pos_left hQ (by decide);exact Nat.lt_of_lt_of_le this (by decide)
  have:=pow_lt_exp h31;omega
theorem dp_small {ds:List Nat} {dp M:Nat} (hd:Dec ds dp M 0) (hM:M < 2 ^ 53):dp≤17:=by
 have hlo:=hd.lo;rw [Nat.pow_zero,Nat.mul_one] at hlo;rcases Nat.lt_or_ge dp 18 with hx | hx
 ·omega
 ·exfalso
  have e1:10 ^ 18≤10 ^ dp:=Nat.pow_le_pow_right (by decide) hx;generalize 10 ^ dp=z at hlo e1;omega
theorem fMant' {Q e:Nat} (h1:2 ^ e≤2 * Q) (h2:Q < 2 ^ e) (h3:e≤53):2 ^ 52≤Q * 2 ^ (53 - e)∧Q * 2 ^ (53 - e) < 2 ^ 53:=by
 have e1:2 ^ e * 2 ^ (53 - e)=2 ^ 53:=by rw [← Nat.pow_add,show e + (53 - e)=53 from by omega]
 have a1:=Nat.mul_le_mul_right (2 ^ (53 - e)) h1;have a2:=Nat.mul_lt_mul_of_pos_right h2 (p2 (53 - e));rw [e1] at a1 a2;rw [Nat.mul_assoc] at a1;omega
section
variable {lab lab1:Lab} {w w1:World} {b ℓ:Nat} {ds:List Nat} {dp:Int}
def form64:Value:=.agg #[.int .i64 52,.int .i64 11,.int .i64 (-1023)]
theorem DAt.mv0 {M:Nat→Prop} (h:DAt lab w b ds dp) (m:Mv M w lab w1 lab1) (h0:¬ M 60) (h1:¬ M 61) (h2:¬ M 62):DAt lab1 w1 b ds dp:=by
 obtain ⟨ℓ,A,c,hℓ,a,r⟩:=h;refine ⟨ℓ,A,c,hℓ,a.mv m h0,r.mv m ?_⟩;rcases hℓ with rfl | rfl
 ·exact h1
 ·exact h2
def BitsP (lab:Lab) (w:World) (Q:Nat) (e:Ending) (w':World):Prop :=
 ∃ ex,2 ^ ex≤2 * Q∧Q < 2 ^ ex∧ex≤53∧e=.returned (.tuple #[.int .u64 (((ex + 1018) * 2 ^ 52 + Q * 2 ^ (53 - ex):Nat):Int),.bool false])∧∃ lab',Mv DM w lab w' lab'
set_option maxRecDepth 100000 in
set_option maxHeartbeats 8000000 in
theorem bits_c {dp Q:Nat} (h:DAt lab w b ds (dp:Nat)) (hd:Dec ds dp Q 3) (hQ:Q < 2 ^ 30) (hl:ds.length≤1000):Calls Tryz.prog 116 #[.pointer (some ⟨b,0,none⟩),form64] w (BitsP lab w Q):=by
 have hQ0:=hd.pos;obtain ⟨wA,hwA⟩:∃ x,x=w.alloc (.cells #[.int .i64 52,.int .i64 11,.int .i64 (-1023)] 166):=⟨_,rfl⟩;obtain ⟨labA,hlA⟩:∃ x,x=lab.ext w.heap.size 63:=⟨_,rfl⟩;have mA:Mv DM w lab wA labA:=by rw [hwA,hlA];exact Mv.alloc (M:=DM) w lab _ 63
 have mA0:Mv (fun _=>False) w lab wA labA:=by rw [hwA,hlA];exact Mv.alloc (M:=fun _=>False) w lab _ 63
 have hA:Cl 63 labA wA w.heap.size #[.int .i64 52,.int .i64 11,.int .i64 (-1023)] 166:=by rw [hwA,hlA];exact Cl.alloc w lab _ 166 63
 have hD:=h.mv0 mA0 (fun h=>h) (fun h=>h) (fun h=>h);have H:=Lib.hid (aI hD (aI hd (aI hA mA)));obtain ⟨ℓ,A,c,hℓ,h1,h2⟩:=hD;have q0:wA.cell? ⟨b,0,none⟩=some (.slice A ds.length c):=h1.cell 0;have q1:wA.cell? ⟨b,1,none⟩=some (.int .i64 (dp:Int)):=h1.cell 1;have k0:wA.cell? ⟨w.heap.size,0,none⟩=some (.int .i64 52):=hA.cell 0;have k1:wA.cell? ⟨w.heap.size,1,none⟩=some (.int .i64 11):=hA.cell 1;have k2:wA.cell? ⟨w.heap.size,2,none⟩=some (.int .i64 (-1023)):=hA.cell 2;have hdp:dp≤100:=by
  cases dp with
  | zero=>decide
  | succ n =>
   have:=(loop1_arith hd hQ).1;omega
 have hdp1:(dp:Int)≤100:=by omega
 have hdp0:(0:Int)≤(dp:Int):=Int.natCast_nonneg _;have hlp:=List.length_pos_iff.2 hd.ne;obtain ⟨mm,hmm⟩:∃ m,ds.length=m + 1:=⟨ds.length - 1,by omega⟩;rw [hmm] at q0;have hb1:((mm:Int) + 1 == 0)=false:=bqf (by omega);have hb2:decide ((dp:Int) < -330)=false:=decide_eq_false (by omega);have hb3:decide ((310:Int) < (dp:Int))=false:=decide_eq_false (by omega);have hmm0:(0:Int)≤(mm:Int):=Int.natCast_nonneg _;clear h hd mA mA0 hA h1 h2 hlp hℓ hlA hmm;unfold form64;go_enter Tryz.func116,Tryz.ntmps116;go_wp2;rw [← hwA];clear hwA;go_quiet (fail);have mq:Mv (fun _=>False) wA labA (wA.drewN nq) labA:=(Mv.refl _ _ _).drewN nq;have H1:=Lib.hid (aI (H.out.1.mv0 mq (fun h=>h) (fun h=>h) (fun h=>h)) (aI (H.out.2.2.1.mv mq (fun h=>h)) (H.out.2.2.2.trans mq (fun _ h=>h.elim))));clear mq;go_wp2;go_loopw [7] (fun s7 wz=>∃ (e:Nat) (dsx:List Nat) (dpx:Nat) (labx:Lab),s7=.int .i64 ((e:Int) - 3)∧3≤e∧e≤33∧2 ^ e≤8 * Q∧DAt labx wz b dsx (dpx:Nat)∧Dec dsx dpx Q e∧dsx.length≤1000 + 64 * e∧Cl 63 labx wz w.heap.size #[.int .i64 52,.int .i64 11,.int .i64 (-1023)] 166∧Mv DM w lab wz labx) (fun s7 _=>(100 - RowKit.intOf s7).toNat)
 case atStart=>exact ⟨3,ds,dp,labA,rfl,by decide,by decide,by omega,H1.out.1,H.out.2.1,by omega,H1.out.2.1,H1.out.2.2⟩
 case round =>
  obtain ⟨e,dsx,dpx,labx,rfl,h3,h33,h8,hD,hd,hlx,hc,hm⟩:=hrel;have q1x:wr.cell? ⟨b,1,none⟩=some (.int .i64 (dpx:Int)):=by
   obtain ⟨ℓ2,A2,c2,hℓ2,d1,d2⟩:=hD;exact d1.cell 1
  have he0:(3:Int)≤(e:Int):=by omega
  have he1:(e:Int)≤33:=by omega
  cases dpx with
  | succ dp' =>
   obtain ⟨h10,hk,hk33⟩:=loop1_arith hd hQ;have hcall:=half_c hD hd hk (by omega) (by omega) (by omega);obtain ⟨P,hP⟩:∃ P,P=dp' + 1:=⟨_,rfl⟩;rw [← hP] at hk hcall q1x hk33;have hP0:(1:Int)≤(P:Int):=by omega
   have hP1:(P:Int)≤10:=by omega
   have hP2:(0:Int) < (P:Int):=by omega
   obtain ⟨k,hkk⟩:∃ k,k=3 * P:=⟨_,rfl⟩;rw [← hkk] at hk hcall hk33;have ek:(k:Int)=3 * (P:Int):=by omega
   rw [ek] at hcall;have hk0:(3:Int)≤(k:Int):=by omega
   have hk1:(k:Int)≤30:=by omega
   have hmn:min (3 * (P:Int)) 59=3 * (P:Int):=Int.min_eq_left (by omega);have HC:=Lib.hid hcall;have HR:=Lib.hid (aI hc (aI hm (aI hk (aI hk33 (aI hlx hkk)))));clear h10 hcall hkk hk hk33 hP hD hd hc hm h8 hlx;go_wp2_with fail;refine HC.out.mono ?_;rintro ex w2 ⟨rfl,ds2,dp2,lab2,hD2,hd2,hl2,hm2⟩;have HX:=Lib.hid (aI hD2 (aI hd2 (aI hl2 (aI (HR.out.1.mv hm2 (by decide)) (HR.out.2.1.trans hm2 (fun _ h=>h))))));clear hD2 hd2 hl2 hm2;go_wp2;go_roundw
   case rel=>exact ⟨e + k,ds2,dp2,lab2,by go_num,by omega,HR.out.2.2.2.1,HR.out.2.2.1,HX.out.1,HX.out.2.1,by have:=HX.out.2.2.1;have:=HR.out.2.2.2.2.1;omega,HX.out.2.2.2.1,HX.out.2.2.2.2⟩
   case measure=>simp [RowKit.intOf];omega
  | zero =>
   rw [show ((0:Nat):Int)=0 from rfl] at q1x;have HB:=Lib.hid (aI hD (aI hd (aI hlx (aI hc hm))));clear hD hd hlx hc hm h8 h3;go_wp2;go_loopw [7] (fun s7 wz=>∃ (e:Nat) (dsx:List Nat) (labx:Lab),s7=.int .i64 ((e:Int) - 3)∧e≤33∧DAt labx wz b dsx ((0:Nat):Int)∧Dec dsx 0 Q e∧dsx.length + 20 * e≤5000∧Cl 63 labx wz w.heap.size #[.int .i64 52,.int .i64 11,.int .i64 (-1023)] 166∧Mv DM w lab wz labx) (fun s7 _=>(RowKit.intOf s7 + 3).toNat)
   case atStart=>exact ⟨e,dsx,labx,rfl,h33,HB.out.1,HB.out.2.1,by have:=HB.out.2.2.1;omega,HB.out.2.2.2.1,HB.out.2.2.2.2⟩
   case round =>
    obtain ⟨e,dsy,laby,rfl,h33,hD,hd,hlx,hc,hm⟩:=hrel;have hD2:=hD;obtain ⟨ℓ2,A2,c2,hℓ2,d1,d2⟩:=hD2;have q1y:wr.cell? ⟨b,1,none⟩=some (.int .i64 0):=d1.cell 1;have q0y:wr.cell? ⟨b,0,none⟩=some (.slice A2 dsy.length c2):=d1.cell 0;have hlp:=List.length_pos_iff.2 hd.ne;obtain ⟨d0,hd0⟩:∃ d0,dsy[0]?=some d0:=⟨_,List.getElem?_eq_getElem hlp⟩;obtain ⟨g,hg,hcell⟩:=d2.at hd0;subst hg;have e0:dsy.getD 0 0=d0:=by rw [List.getD_eq_getElem?_getD,hd0];rfl
    have he0:(0:Int)≤(e:Int):=Int.natCast_nonneg _;have he1:(e:Int)≤33:=by omega
    have hlp':(0:Int) < (dsy.length:Int):=by omega
    have HD:=Lib.hid (aI hD (aI hd (aI hlx (aI hc (aI hm e0)))));have k0y:wr.cell? ⟨w.heap.size,0,none⟩=some (.int .i64 52):=hc.cell 0;have k1y:wr.cell? ⟨w.heap.size,1,none⟩=some (.int .i64 11):=hc.cell 1;have k2y:wr.cell? ⟨w.heap.size,2,none⟩=some (.int .i64 (-1023)):=hc.cell 2;clear d1 d2 hℓ2 hlp hd0 e0 hD hd hlx hc hm;by_cases h5:d0 < 5
    ·have h5':(d0:Int) < 5:=by omega
     have hcall:=double_c (k:=1) HD.out.1 HD.out.2.1 (by decide) (by have:=HD.out.2.2.1;omega) (by decide);rw [show ((1:Nat):Int)=1 from rfl] at hcall;have HC:=Lib.hid hcall;clear hcall;go_wp2_with fail;refine HC.out.mono ?_;rintro ex w2 ⟨rfl,ds2,dp2,lab2,hD2,hd2,hl2,hm2⟩;obtain ⟨rfl,e',rfl,hd3⟩:=loop2_arith HD.out.2.1 (by rw [HD.out.2.2.2.2.2];exact h5) hd2;have HX:=Lib.hid (aI hD2 (aI hd3 (aI hl2 (aI (HD.out.2.2.2.1.mv hm2 (by decide)) (HD.out.2.2.2.2.1.trans hm2 (fun _ h=>h))))));clear hD2 hd2 hd3 hl2 hm2;go_wp2;go_roundw
     case rel=>exact ⟨e',ds2,lab2,by go_num,by omega,HX.out.1,HX.out.2.1,by have:=HX.out.2.2.1;have:=HD.out.2.2.1;omega,HX.out.2.2.2.1,HX.out.2.2.2.2⟩
     case measure=>simp [RowKit.intOf];omega
    ·have h5':¬ ((d0:Int) < 5):=by omega
     obtain ⟨a1,a2,a3,a4⟩:=end_arith HD.out.2.1 (by rw [HD.out.2.2.2.2.2];exact h5) hQ;have he2:(1:Int)≤(e:Int):=by omega
     have he3:(e:Int)≤31:=by omega
     have HA:=Lib.hid (aI a1 (aI a2 (aI a3 a4)));clear a1 a2 a3 a4 h33;go_wp2;go_quiet (fail);have mq:Mv (fun _=>False) wr laby (wr.drewN nq) laby:=(Mv.refl _ _ _).drewN nq;have hcall:=shift_c (k:=53) (HD.out.1.mv0 mq (fun h=>h) (fun h=>h) (fun h=>h)) HD.out.2.1 (by decide) (by decide) (by have:=HD.out.2.2.1;omega) (by decide);rw [show ((53:Nat):Int)=53 from rfl] at hcall;have HC:=Lib.hid hcall;have HQ:=Lib.hid (aI (HD.out.2.2.2.1.mv mq (fun h=>h)) (HD.out.2.2.2.2.1.trans mq (fun _ h=>h.elim)));clear hcall mq;go_wp2_with fail;refine HC.out.mono ?_;rintro ex w2 ⟨rfl,ds3,dp3,lab3,hD3,hd3,hl3,hm3⟩;have hd4:=hd3.at53 (by have:=HA.out.2.2.2;omega);obtain ⟨M1,M2⟩:=fMant' HA.out.1 HA.out.2.1 (by have:=HA.out.2.2.2;omega);obtain ⟨M,hM⟩:∃ M,M=Q * 2 ^ (53 - e):=⟨_,rfl⟩;rw [← hM] at hd4 M1 M2;have hw:=whole_c hD3 hd4 (Nat.lt_trans M2 (by decide)) (by have:=dp_small hd4 M2;omega);have hc3:=HQ.out.1.mv hm3 (by decide);have k0z:w2.cell? ⟨w.heap.size,0,none⟩=some (.int .i64 52):=hc3.cell 0;have k1z:w2.cell? ⟨w.heap.size,1,none⟩=some (.int .i64 11):=hc3.cell 1;have k2z:w2.cell? ⟨w.heap.size,2,none⟩=some (.int .i64 (-1023)):=hc3.cell 2;have hMne:((M:Int) == 9007199254740992)=false:=bqf (by omega);have hmt:=and_top M1 M2;have hml:=and_low M1 M2;have hmo:=or_exp (r:=M - 2 ^ 52) (x:=e + 1019) (by omega) (by have:=HA.out.2.2.2;omega);have HW:=Lib.hid (aI hw (aI hM (aI M1 (aI M2 (HQ.out.2.trans hm3 (fun _ h=>h))))));obtain ⟨r,hr⟩:∃ r,r=M - 2 ^ 52:=⟨_,rfl⟩;obtain ⟨z,hz⟩:∃ z,z=(e + 1019) * 4503599627370496:=⟨_,rfl⟩;rw [← hr] at hml hmo;rw [← hz] at hmo;have hzz:(z:Int)=((e:Int) - 3 - 1 + 1023) * 4503599627370496:=by rw [hz];omega
     have HZ:=Lib.hid (aI hr (aI hz hzz));clear hw hM M1 M2 hm3 hl3 hd3 hd4 hD3 hc3 hr hz hzz;go_wp2_with fail;refine HW.out.1.mono ?_;rintro ex w4 ⟨rfl,rfl⟩;go_wp2;go_quiet (fail);rw [← HZ.out.2.2,hmo];have hval:(z + r:Nat)=(e + 1018) * 2 ^ 52 + Q * 2 ^ (53 - e):=by
      rw [HZ.out.1,HZ.out.2.1,← HW.out.2.1];have:=HW.out.2.2.1;omega
     have hB:∀ n,BitsP lab w Q (.returned (.tuple #[.int .u64 ((z + r:Nat):Int),.bool false])) (w4.drewN n):=fun n=>⟨e,HA.out.1,HA.out.2.1,by have:=HA.out.2.2.2;omega,by rw [hval],lab3,HW.out.2.2.2.2.drewN n⟩
     have HB2:=Lib.hid hB;clear hB hval hmo hml hmt;obtain ⟨y,hy⟩:∃ y,y=z + r:=⟨_,rfl⟩;rw [← hy] at HB2 ⊢;clear hy;go_wp2;go_ret2;exact HB2.out _
set_option maxRecDepth 100000 in
set_option maxHeartbeats 8000000 in
theorem bits0_c (h:DAt lab w b [] 0):Calls Tryz.prog 116 #[.pointer (some ⟨b,0,none⟩),form64] w fun e w'=>e=.returned (.tuple #[.int .u64 0,.bool false])∧∃ lab',Mv DM w lab w' lab':=by
 obtain ⟨wA,hwA⟩:∃ x,x=w.alloc (.cells #[.int .i64 52,.int .i64 11,.int .i64 (-1023)] 166):=⟨_,rfl⟩;obtain ⟨labA,hlA⟩:∃ x,x=lab.ext w.heap.size 63:=⟨_,rfl⟩;have mA:Mv DM w lab wA labA:=by rw [hwA,hlA];exact Mv.alloc (M:=DM) w lab _ 63
 have mA0:Mv (fun _=>False) w lab wA labA:=by rw [hwA,hlA];exact Mv.alloc (M:=fun _=>False) w lab _ 63
 have hA:Cl 63 labA wA w.heap.size #[.int .i64 52,.int .i64 11,.int .i64 (-1023)] 166:=by rw [hwA,hlA];exact Cl.alloc w lab _ 166 63
 have hD:=h.mv0 mA0 (fun h=>h) (fun h=>h) (fun h=>h);obtain ⟨ℓ,A,c,hℓ,h1,h2⟩:=hD;have q0:wA.cell? ⟨b,0,none⟩=some (.slice A 0 c):=h1.cell 0;have q1:wA.cell? ⟨b,1,none⟩=some (.int .i64 0):=h1.cell 1;have k0:wA.cell? ⟨w.heap.size,0,none⟩=some (.int .i64 52):=hA.cell 0;have k1:wA.cell? ⟨w.heap.size,1,none⟩=some (.int .i64 11):=hA.cell 1;have H:=Lib.hid mA;clear h mA mA0 hA h1 h2 hℓ hlA;unfold form64;go_enter Tryz.func116,Tryz.ntmps116;go_wp2;rw [← hwA];clear hwA;go_quiet (fail);have HB:=Lib.hid (H.out.drewN nq);go_wp2;go_ret2;exact ⟨rfl,_,HB.out⟩
end
end Go.Cf
