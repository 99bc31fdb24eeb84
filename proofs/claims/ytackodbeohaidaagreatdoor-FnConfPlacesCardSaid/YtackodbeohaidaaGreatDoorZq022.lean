/-
  Texts joined: Dl Dm Fx Dn2 Do Se Aw Gb Sf Qd Tn.
-/
import Derived.Test.YtackodbeohaidaaGreatDoorZq05
import Derived.Test.YtackodbeohaidaaGreatDoorZq010
import Derived.Test.YtackodbeohaidaaGreatDoorZq012
import Derived.Test.YtackodbeohaidaaGreatDoorZq013
import Derived.Test.YtackodbeohaidaaGreatDoorZq020
import Derived.Test.YtackodbeohaidaaGreatDoorZq021
import Derived.Deep.DeepCutAuto
import Derived.Deep.CutRange
import Derived.Laws.Externs
import Derived.WalkKit
import Derived.ProofKit
import Derived.OpenShut
import Derived.Deep.DeepHandedRow
import Derived.Deep.DeepWitnessRowRef
import Derived.Lib.LaidTab
import Derived.Lay
import Derived.Deep.Strs
import Derived.Deep.Slices
import Derived.Laws.Cover2
import Derived.Carry
import Derived.Lib.SmallJoins
namespace Go.Cf
open Go.RowKit Go.Conc Go.Proofs
structure RdT (s:ByteArray) (P:Nat):Prop where
 p1:1≤P
 sz:s.size=P + 4
 le:s.size≤100
 pt:byteAt s P=46
 dg:∀ i,i < s.size→i ≠ P→48≤byteAt s i∧byteAt s i≤57
def xv (s:ByteArray) (P:Nat):Nat→Nat
 | 0=>0
 | i + 1=>if i=P then xv s P i else 10 * xv s P i + (byteAt s i - 48)
structure RdG (s:ByteArray) (P i:Nat) (ds:List Nat) (dp:Int):Prop where
 dg:Dg ds
 val:dv ds=xv s P i
 hd:ds=[] ∨ ds.getD 0 0 ≠ 0
 dp:dp=(ds.length:Int) - (if P < i then (i:Int) - (P:Int) - 1 else 0)
 len:ds.length≤i
theorem RdG.start (s:ByteArray) (P:Nat):RdG s P 0 [] 0:=⟨Dg.nil,rfl,.inl rfl,by simp,Nat.le_refl _⟩
theorem RdG.point {s:ByteArray} {P i:Nat} {ds:List Nat} {dp:Int} (h:RdG s P i ds dp) (hi:i=P):RdG s P (i + 1) ds dp:=by
 refine ⟨h.dg,?_,h.hd,?_,by have:=h.len;omega⟩
 ·rw [xv,if_pos hi];exact h.val
 ·rw [h.dp,if_neg (by omega),if_pos (by omega)];omega
theorem RdG.push {s:ByteArray} {P i:Nat} {ds:List Nat} {dp:Int} (h:RdG s P i ds dp) (hi:i ≠ P) {d:Nat} (hd:d=byteAt s i - 48) (h9:d < 10) (hg:0 < ds.length ∨ d ≠ 0):RdG s P (i + 1) (ds ++ [d]) (if P < i then dp else dp + 1):=by
 refine ⟨h.dg.snoc h9,?_,.inr ?_,?_,by have:=h.len;simp;omega⟩
 ·rw [xv,if_neg hi,dv_snoc,h.val,hd]
 ·cases ds with
  | nil =>
   rcases hg with hg | hg
   ·simp at hg
   ·simpa using hg
  | cons x r =>
   rcases h.hd with e | e
   ·cases e
   ·exact e
 ·have:=h.dp;rw [List.length_append,List.length_singleton];by_cases hp:P < i
  ·rw [if_pos hp] at this ⊢;rw [if_pos (by omega)];omega
  ·rw [if_neg hp] at this ⊢;rw [if_neg (by omega)];omega
theorem RdG.skip {s:ByteArray} {P i:Nat} {dp:Int} (h:RdG s P i [] dp) (hi:i ≠ P) (hd:byteAt s i - 48=0):RdG s P (i + 1) [] (if P < i then dp - 1 else dp):=by
 refine ⟨Dg.nil,?_,.inl rfl,?_,Nat.zero_le _⟩
 ·rw [xv,if_neg hi,← h.val,hd];rfl
 ·have:=h.dp;by_cases hp:P < i
  ·rw [if_pos hp] at this ⊢;rw [if_pos (by omega)];omega
  ·rw [if_neg hp] at this ⊢;rw [if_neg (by omega)];omega
theorem or32:∀ c:Nat,c < 58→46≤c→bits .or .u8 (c:Int) 32=(c:Int):=by decide
section
variable {lab lab1:Lab} {w w1:World} {b ℓ:Nat} {ds:List Nat} {dp:Int}
set_option maxRecDepth 100000 in
theorem lower_c {c:Nat} (h0:46≤c) (h1:c≤57):Calls Tryz.prog 152 #[.int .u8 (c:Int)] w fun e w'=>e=.returned (.int .u8 (c:Int))∧w'=w:=by
 have hb:=or32 c (by omega) h0;go_enter Tryz.func152,Tryz.ntmps152;go_wp2;go_ret;exact ⟨rfl,rfl⟩
def ReadP (lab:Lab) (w:World) (s:ByteArray) (P:Nat) (e:Ending) (w':World):Prop :=
 ∃ b ds ds' dp lab',e=.returned (.tuple #[.pointer (some ⟨b,0,none⟩),.bool true])∧RdG s P s.size ds dp∧Trim ds ds'∧DAt lab' w' b ds' (if ds'=[] then 0 else dp)∧Mv DM w lab w' lab'
set_option maxRecDepth 100000 in
set_option maxHeartbeats 8000000 in
theorem read_c {s:ByteArray} {P:Nat} (hT:RdT s P):Calls Tryz.prog 113 #[.string s] w (ReadP lab w s P):=by
 have hsz:=hT.sz;have hle:=hT.le;have hp1:=hT.p1;obtain ⟨wA,hwA⟩:∃ x,x=w.alloc (.cells #[.slice none 0 0,.int .i64 0] 207):=⟨_,rfl⟩;obtain ⟨labA,hlA⟩:∃ x,x=lab.ext w.heap.size 60:=⟨_,rfl⟩;have mA:Mv DM w lab wA labA:=by rw [hwA,hlA];exact Mv.alloc (M:=DM) w lab _ 60
 have hA:Cl 60 labA wA w.heap.size #[.slice none 0 0,.int .i64 0] 207:=by rw [hwA,hlA];exact Cl.alloc w lab _ 207 60
 have H:=Lib.hid (aI hA (aI mA hT));have h0:0 < s.size:=by omega
 have h1:1 < s.size:=by omega
 have e0:=byteAt_get s 0 h0;have e1:=byteAt_get s 1 h1;have hc1:46≤byteAt s 1∧byteAt s 1≤57:=by
  by_cases hp:1=P
  ·rw [hp,hT.pt];decide
  ·have:=hT.dg 1 h1 hp;omega
 have HL:=Lib.hid (fun (w:World)=>lower_c (w:=w) hc1.1 hc1.2);have hc120:(((byteAt s 1:Nat):Int) == 120)=false:=bqf (by omega);have hsz2:(2:Int)≤(s.size:Int):=by omega
 have hszm:(s.size:Int)≤100:=by omega
 clear hA mA hT hlA hsz hp1 hc1;go_enter Tryz.func113,Tryz.ntmps113;go_upto_region 2 with fail
 rw [← hwA];clear hwA;go_cut [5] from 17 to 30 (fun s5 wx=>s5=.bool false∧wx=wA)
 case first =>
  by_cases h48:byteAt s 0=48
  ·have h48':((byteAt s 0:Nat):Int)=48:=by omega
   go_wp2_with fail
   refine (HL.out _).mono ?_;rintro e w2 ⟨rfl,rfl⟩;go_wp2;go_meet
   case rel=>exact ⟨rfl,rfl⟩
  ·have h48':¬ ((byteAt s 0:Nat):Int)=48:=by omega
   go_wp2_with fail
   go_meet
   case rel=>exact ⟨rfl,rfl⟩
 case rest =>
  obtain ⟨rfl,hw⟩:=hcut;have hw':=hw.symm;subst hw';clear hw e0 e1 h0 h1 HL hc120;go_wp2;go_loopw [8,9,10,11] (fun s8 s9 s10 s11 wz=>∃ (i:Nat) (ds:List Nat) (dp:Int) (A:Option Addr) (c:Nat) (labz:Lab),s8=.bool (decide (0 < i))∧s9=.bool (decide (P < i))∧s10=.int .i64 0∧s11=.int .i64 (i:Int)∧i≤s.size∧RdG s P i ds dp∧Cl 60 labz wz w.heap.size #[.slice A ds.length c,.int .i64 dp] 207∧DgR 61 labz wz A ds c∧Mv DM w lab wz labz) (fun _ _ _ s11 _=>200 - (RowKit.intOf s11).toNat)
  case atStart=>exact ⟨0,[],0,none,0,labA,rfl,rfl,rfl,rfl,Nat.zero_le _,RdG.start s P,H.out.1,⟨⟨by simp [dig],.inl ⟨rfl,rfl⟩⟩,fun k hk=>by cases hk⟩,H.out.2.1⟩
  case round =>
   obtain ⟨i,ds,dp,A,c,labz,rfl,rfl,rfl,rfl,hi,hr,hcl,hdg,hm⟩:=hrel;have q0:wr.cell? ⟨w.heap.size,0,none⟩=some (.slice A ds.length c):=hcl.cell 0;have q1:wr.cell? ⟨w.heap.size,1,none⟩=some (.int .i64 dp):=hcl.cell 1;have f0:wr.frozen? ⟨w.heap.size,0,none⟩=false:=hcl.free 0;have f1:wr.frozen? ⟨w.heap.size,1,none⟩=false:=hcl.free 1;have hi0:(0:Int)≤(i:Int):=Int.natCast_nonneg _;have hlen:=hr.len;have hT:=H.out.2.2;have hdpb:-200≤dp∧dp≤200:=by
    have h1:=hr.dp;by_cases hp:P < i
    ·rw [if_pos hp] at h1;omega
    ·rw [if_neg hp] at h1;omega
   obtain ⟨hdp0,hdp1⟩:=hdpb;have HZ:=Lib.hid (aI hr (aI hcl (aI hdg (aI hm hT))));have hown:=hdg.1;clear hr hcl hdg hm hT;by_cases hlt:i < s.size
   ·have hlt':(i:Int) < (s.size:Int):=by omega
    have hbg:=byteAt_get s i hlt;by_cases hiP:i=P
    ·have hb:byteAt s i=46:=by rw [hiP];exact HZ.out.2.2.2.2.pt
     rw [hb] at hbg;have hnx:=HZ.out.1.point hiP;have HX:=Lib.hid (aI hnx hiP);have hPi:¬ P < i:=by omega
     have hip:0 < i:=by have:=HZ.out.2.2.2.2.p1;omega
     clear hnx hb hiP hown;go_wp2;go_roundw
     case rel=>exact ⟨i + 1,ds,dp,A,c,labz,by simp [hip],by have:=HX.out.2;simp;omega,by first | rfl | trivial,by go_num,by omega,HX.out.1,HZ.out.2.1,HZ.out.2.2.1,HZ.out.2.2.2.1⟩
     case measure=>simp [RowKit.intOf];omega
    ·obtain ⟨b48,b57⟩:=HZ.out.2.2.2.2.dg i hlt hiP;obtain ⟨d,hd⟩:∃ d,byteAt s i=48 + d:=⟨byteAt s i - 48,by omega⟩;have hd':d=byteAt s i - 48:=by omega
     have hd9:d < 10:=by omega
     have hd0:(0:Int)≤(d:Int):=Int.natCast_nonneg _;have hd9':(d:Int)≤9:=by omega
     obtain ⟨bt,hbt⟩:∃ bt,bt=byteAt s i:=⟨_,rfl⟩;rw [← hbt] at hbg hd b48 b57;have hbd:(bt:Int) - 48=(d:Int):=by omega
     have hb0:(48:Int)≤(bt:Int):=by omega
     have hb1:(bt:Int)≤57:=by omega
     by_cases hL0:0 < ds.length
     ·have hnx:=HZ.out.1.push hiP hd' hd9 (.inl hL0);obtain ⟨L,hL⟩:∃ L,L=ds.length:=⟨_,rfl⟩;rw [← hL] at q0 hown hL0 hlen;have HLL:=Lib.hid hL;have hZ2:=HZ.out.2;rw [← hL] at hZ2;unfold DgR at hZ2;rw [← hL] at hZ2;have HZ:=Lib.hid (aI hnx hZ2);have hL0':(0:Int) < (L:Int):=by omega
      clear hZ2;by_cases hPi:P < i
      ·rw [if_pos hPi] at hnx;clear hd hd' b48 b57 hiP hbt hL;go_wp2_with (at_builtin;refine app_one 0 rfl _ _ 27 5 (.int .u8 0) 1 1 rfl Tryz.underlying27 info5 rfl (by decide) (by decide) (.slice A L c) L (dig ds) [.int .u8 (d:Int)] rfl rfl rfl (by simp;rfl) hown (Nat.zero_le _) (by omega) ?_);intro v1 w1 hown1 hg1 hat1;obtain ⟨g,cap,hv1,_,_⟩:=hown1.form (by omega);subst hv1;have m1:Mv (·=61) wr labz w1 (labz.ext wr.heap.size 61):=Mv.grown hg1 labz 61 (fun k hk=>HZ.out.2.2.1.2 k hk);have hc1:=HZ.out.2.1.mv m1 (by decide);have hr1:Rw 0 61 (labz.ext wr.heap.size 61) w1 5 1 (.slice (some ⟨g,0,none⟩) (L + 1) cap) (L + 1) (dig ds ++ [.int .u8 (d:Int)]):=HZ.out.2.2.1.appended hown1 hg1 hat1;have q0y:w1.cell? ⟨w.heap.size,0,none⟩=some (.slice A L c):=hc1.cell 0;have q1y:w1.cell? ⟨w.heap.size,1,none⟩=some (.int .i64 dp):=hc1.cell 1;have f0y:w1.frozen? ⟨w.heap.size,0,none⟩=false:=hc1.free 0;have f1y:w1.frozen? ⟨w.heap.size,1,none⟩=false:=hc1.free 1;have hc2:=hc1.set 0 (.slice (some ⟨g,0,none⟩) (L + 1) cap);have m2:Mv (·=60) w1 (labz.ext wr.heap.size 61) (w1.setCell ⟨w.heap.size,0,none⟩ (.slice (some ⟨g,0,none⟩) (L + 1) cap)) (labz.ext wr.heap.size 61):=Mv.setCell _ _ _ _ hc1.2;have hr2:=hr1.mv m2 (by decide);have mm2:=(HZ.out.2.2.2.1.trans m1 (fun _ e=>.inr (.inl e))).trans m2 (fun _ e=>.inl e);have HR:=Lib.hid (aI hc2 (aI hr2 (aI mm2 hnx)));clear hc1 hr1 m1 m2 hc2 hr2 mm2 hown1 hg1 hat1 hown hnx;go_wp2;go_roundw
       case rel=>exact ⟨i + 1,ds ++ [d],dp,some ⟨g,0,none⟩,cap,_,by simp,by simp;omega,by first | rfl | trivial,by go_num,by omega,HR.out.2.2.2,by have:=HR.out.1;rw [List.length_append,List.length_singleton];rw [← HLL.out];exact this,by have:=HR.out.2.1;unfold DgR;rw [List.length_append,List.length_singleton];rw [← HLL.out];rw [show dig (ds ++ [d])=dig ds ++ [Value.int .u8 (d:Int)] from by simp [dig]];exact this,HR.out.2.2.1⟩
       case measure=>simp [RowKit.intOf];omega
      ·rw [if_neg hPi] at hnx;have hPi2:¬ P < i + 1:=by omega
       clear hd hd' b48 b57 hiP hbt hL;go_wp2_with (at_builtin;refine app_one 0 rfl _ _ 27 5 (.int .u8 0) 1 1 rfl Tryz.underlying27 info5 rfl (by decide) (by decide) (.slice A L c) L (dig ds) [.int .u8 (d:Int)] rfl rfl rfl (by simp;rfl) hown (Nat.zero_le _) (by omega) ?_);intro v1 w1 hown1 hg1 hat1;obtain ⟨g,cap,hv1,_,_⟩:=hown1.form (by omega);subst hv1;have m1:Mv (·=61) wr labz w1 (labz.ext wr.heap.size 61):=Mv.grown hg1 labz 61 (fun k hk=>HZ.out.2.2.1.2 k hk);have hc1:=HZ.out.2.1.mv m1 (by decide);have hr1:Rw 0 61 (labz.ext wr.heap.size 61) w1 5 1 (.slice (some ⟨g,0,none⟩) (L + 1) cap) (L + 1) (dig ds ++ [.int .u8 (d:Int)]):=HZ.out.2.2.1.appended hown1 hg1 hat1;have q0y:w1.cell? ⟨w.heap.size,0,none⟩=some (.slice A L c):=hc1.cell 0;have q1y:w1.cell? ⟨w.heap.size,1,none⟩=some (.int .i64 dp):=hc1.cell 1;have f0y:w1.frozen? ⟨w.heap.size,0,none⟩=false:=hc1.free 0;have f1y:w1.frozen? ⟨w.heap.size,1,none⟩=false:=hc1.free 1;have hc2:=hc1.set 0 (.slice (some ⟨g,0,none⟩) (L + 1) cap);have m2:Mv (·=60) w1 (labz.ext wr.heap.size 61) (w1.setCell ⟨w.heap.size,0,none⟩ (.slice (some ⟨g,0,none⟩) (L + 1) cap)) (labz.ext wr.heap.size 61):=Mv.setCell _ _ _ _ hc1.2;have hr2:=hr1.mv m2 (by decide);have mm2:=(HZ.out.2.2.2.1.trans m1 (fun _ e=>.inr (.inl e))).trans m2 (fun _ e=>.inl e);have hc3:=hc2.set 1 (.int .i64 (dp + 1));have m3:Mv (·=60) (w1.setCell ⟨w.heap.size,0,none⟩ (.slice (some ⟨g,0,none⟩) (L + 1) cap)) (labz.ext wr.heap.size 61) ((w1.setCell ⟨w.heap.size,0,none⟩ (.slice (some ⟨g,0,none⟩) (L + 1) cap)).setCell ⟨w.heap.size,1,none⟩ (.int .i64 (dp + 1))) (labz.ext wr.heap.size 61):=Mv.setCell _ _ _ _ hc2.2;have HR:=Lib.hid (aI hc3 (aI (hr2.mv m3 (by decide)) (aI (mm2.trans m3 (fun _ e=>.inl e)) hnx)));clear hc1 hr1 m1 m2 hc2 hr2 mm2 hown1 hg1 hat1 hown hnx hc3 m3;go_wp2;go_roundw
       case rel=>exact ⟨i + 1,ds ++ [d],dp + 1,some ⟨g,0,none⟩,cap,_,by simp,by simp;omega,by first | rfl | trivial,by go_num,by omega,HR.out.2.2.2,by have:=HR.out.1;rw [List.length_append,List.length_singleton];rw [← HLL.out];exact this,by have:=HR.out.2.1;unfold DgR;rw [List.length_append,List.length_singleton];rw [← HLL.out];rw [show dig (ds ++ [d])=dig ds ++ [Value.int .u8 (d:Int)] from by simp [dig]];exact this,HR.out.2.2.1⟩
       case measure=>simp [RowKit.intOf];omega
     ·obtain rfl:ds=[]:=List.eq_nil_of_length_eq_zero (by omega);rw [List.length_nil] at q0 hown hlen;by_cases hd0:d=0
      ·subst hd0;have hnx:=HZ.out.1.skip hiP (by omega);by_cases hPi:P < i
       ·rw [if_pos hPi] at hnx;clear hd hd' b48 b57 hiP hL0 hbt;have hc1:=HZ.out.2.1.set 1 (.int .i64 (dp - 1));have m1:Mv (·=60) wr labz (wr.setCell ⟨w.heap.size,1,none⟩ (.int .i64 (dp - 1))) labz:=Mv.setCell _ _ _ _ HZ.out.2.1.2;have HR:=Lib.hid (aI hc1 (aI (HZ.out.2.2.1.mv m1 (by decide)) (aI (HZ.out.2.2.2.1.trans m1 (fun _ e=>.inl e)) hnx)));clear hc1 m1 hnx hown;go_wp2;go_roundw
        case rel=>exact ⟨i + 1,[],dp - 1,A,c,labz,by simp,by simp;omega,by first | rfl | trivial,by go_num,by omega,HR.out.2.2.2,HR.out.1,HR.out.2.1,HR.out.2.2.1⟩
        case measure=>simp [RowKit.intOf];omega
       ·rw [if_neg hPi] at hnx;have hPi2:¬ P < i + 1:=by omega
        clear hd hd' b48 b57 hiP hL0 hbt;have HR:=Lib.hid hnx;clear hnx hown;go_wp2;go_roundw
        case rel=>exact ⟨i + 1,[],dp,A,c,labz,by simp,by simp;omega,by first | rfl | trivial,by go_num,by omega,HR.out,HZ.out.2.1,HZ.out.2.2.1,HZ.out.2.2.2.1⟩
        case measure=>simp [RowKit.intOf];omega
      ·have hnx:=HZ.out.1.push hiP hd' hd9 (.inr hd0);have hdz:((d:Int) == 0)=false:=bqf (by omega);by_cases hPi:P < i
       ·rw [if_pos hPi] at hnx;clear hd hd' b48 b57 hiP hL0 hbt hd0;go_wp2_with (at_builtin;refine app_one 0 rfl _ _ 27 5 (.int .u8 0) 1 1 rfl Tryz.underlying27 info5 rfl (by decide) (by decide) (.slice A 0 c) 0 (dig []) [.int .u8 (d:Int)] rfl rfl rfl (by simp;rfl) hown (Nat.zero_le _) (by omega) ?_);intro v1 w1 hown1 hg1 hat1;obtain ⟨g,cap,hv1,_,_⟩:=hown1.form (by omega);subst hv1;have m1:Mv (·=61) wr labz w1 (labz.ext wr.heap.size 61):=Mv.grown hg1 labz 61 (fun k hk=>HZ.out.2.2.1.2 k hk);have hc1:=HZ.out.2.1.mv m1 (by decide);have hr1:Rw 0 61 (labz.ext wr.heap.size 61) w1 5 1 (.slice (some ⟨g,0,none⟩) (0 + 1) cap) (0 + 1) (dig [] ++ [.int .u8 (d:Int)]):=HZ.out.2.2.1.appended hown1 hg1 hat1;have q0y:w1.cell? ⟨w.heap.size,0,none⟩=some (.slice A 0 c):=hc1.cell 0;have q1y:w1.cell? ⟨w.heap.size,1,none⟩=some (.int .i64 dp):=hc1.cell 1;have f0y:w1.frozen? ⟨w.heap.size,0,none⟩=false:=hc1.free 0;have f1y:w1.frozen? ⟨w.heap.size,1,none⟩=false:=hc1.free 1;have hc2:=hc1.set 0 (.slice (some ⟨g,0,none⟩) (0 + 1) cap);have m2:Mv (·=60) w1 (labz.ext wr.heap.size 61) (w1.setCell ⟨w.heap.size,0,none⟩ (.slice (some ⟨g,0,none⟩) (0 + 1) cap)) (labz.ext wr.heap.size 61):=Mv.setCell _ _ _ _ hc1.2;have hr2:=hr1.mv m2 (by decide);have mm2:=(HZ.out.2.2.2.1.trans m1 (fun _ e=>.inr (.inl e))).trans m2 (fun _ e=>.inl e);have HR:=Lib.hid (aI hc2 (aI hr2 (aI mm2 hnx)));clear hc1 hr1 m1 m2 hc2 hr2 mm2 hown1 hg1 hat1 hown hnx;go_wp2;go_roundw
        case rel=>exact ⟨i + 1,[] ++ [d],dp,some ⟨g,0,none⟩,cap,_,by simp,by simp;omega,by first | rfl | trivial,by go_num,by omega,HR.out.2.2.2,by have:=HR.out.1;rw [List.length_append,List.length_singleton];skip;exact this,by have:=HR.out.2.1;unfold DgR;rw [List.length_append,List.length_singleton];skip;rw [show dig ([] ++ [d])=dig [] ++ [Value.int .u8 (d:Int)] from by simp [dig]];exact this,HR.out.2.2.1⟩
        case measure=>simp [RowKit.intOf];omega
       ·rw [if_neg hPi] at hnx;have hPi2:¬ P < i + 1:=by omega
        clear hd hd' b48 b57 hiP hL0 hbt hd0;go_wp2_with (at_builtin;refine app_one 0 rfl _ _ 27 5 (.int .u8 0) 1 1 rfl Tryz.underlying27 info5 rfl (by decide) (by decide) (.slice A 0 c) 0 (dig []) [.int .u8 (d:Int)] rfl rfl rfl (by simp;rfl) hown (Nat.zero_le _) (by omega) ?_);intro v1 w1 hown1 hg1 hat1;obtain ⟨g,cap,hv1,_,_⟩:=hown1.form (by omega);subst hv1;have m1:Mv (·=61) wr labz w1 (labz.ext wr.heap.size 61):=Mv.grown hg1 labz 61 (fun k hk=>HZ.out.2.2.1.2 k hk);have hc1:=HZ.out.2.1.mv m1 (by decide);have hr1:Rw 0 61 (labz.ext wr.heap.size 61) w1 5 1 (.slice (some ⟨g,0,none⟩) (0 + 1) cap) (0 + 1) (dig [] ++ [.int .u8 (d:Int)]):=HZ.out.2.2.1.appended hown1 hg1 hat1;have q0y:w1.cell? ⟨w.heap.size,0,none⟩=some (.slice A 0 c):=hc1.cell 0;have q1y:w1.cell? ⟨w.heap.size,1,none⟩=some (.int .i64 dp):=hc1.cell 1;have f0y:w1.frozen? ⟨w.heap.size,0,none⟩=false:=hc1.free 0;have f1y:w1.frozen? ⟨w.heap.size,1,none⟩=false:=hc1.free 1;have hc2:=hc1.set 0 (.slice (some ⟨g,0,none⟩) (0 + 1) cap);have m2:Mv (·=60) w1 (labz.ext wr.heap.size 61) (w1.setCell ⟨w.heap.size,0,none⟩ (.slice (some ⟨g,0,none⟩) (0 + 1) cap)) (labz.ext wr.heap.size 61):=Mv.setCell _ _ _ _ hc1.2;have hr2:=hr1.mv m2 (by decide);have mm2:=(HZ.out.2.2.2.1.trans m1 (fun _ e=>.inr (.inl e))).trans m2 (fun _ e=>.inl e);have hc3:=hc2.set 1 (.int .i64 (dp + 1));have m3:Mv (·=60) (w1.setCell ⟨w.heap.size,0,none⟩ (.slice (some ⟨g,0,none⟩) (0 + 1) cap)) (labz.ext wr.heap.size 61) ((w1.setCell ⟨w.heap.size,0,none⟩ (.slice (some ⟨g,0,none⟩) (0 + 1) cap)).setCell ⟨w.heap.size,1,none⟩ (.int .i64 (dp + 1))) (labz.ext wr.heap.size 61):=Mv.setCell _ _ _ _ hc2.2;have HR:=Lib.hid (aI hc3 (aI (hr2.mv m3 (by decide)) (aI (mm2.trans m3 (fun _ e=>.inl e)) hnx)));clear hc1 hr1 m1 m2 hc2 hr2 mm2 hown1 hg1 hat1 hown hnx hc3 m3;go_wp2;go_roundw
        case rel=>exact ⟨i + 1,[] ++ [d],dp + 1,some ⟨g,0,none⟩,cap,_,by simp,by simp;omega,by first | rfl | trivial,by go_num,by omega,HR.out.2.2.2,by have:=HR.out.1;rw [List.length_append,List.length_singleton];skip;exact this,by have:=HR.out.2.1;unfold DgR;rw [List.length_append,List.length_singleton];skip;rw [show dig ([] ++ [d])=dig [] ++ [Value.int .u8 (d:Int)] from by simp [dig]];exact this,HR.out.2.2.1⟩
        case measure=>simp [RowKit.intOf];omega
   ·have hie:i=s.size:=by omega
    have hip:0 < i:=by omega
    have hge:¬ (i:Int) < (s.size:Int):=by omega
    have hr:=HZ.out.1;rw [hie] at hr;have hc1:=HZ.out.2.1.set 1 (.int .i64 dp);have m1:Mv (·=60) wr labz (wr.setCell ⟨w.heap.size,1,none⟩ (.int .i64 dp)) labz:=Mv.setCell _ _ _ _ HZ.out.2.1.2;have hD:DAt labz (wr.setCell ⟨w.heap.size,1,none⟩ (.int .i64 dp)) w.heap.size ds dp:=⟨61,A,c,.inl rfl,hc1,HZ.out.2.2.1.mv m1 (by decide)⟩;have HT:=Lib.hid (trim_c hD (by omega));have HR:=Lib.hid (aI hr (HZ.out.2.2.2.1.trans m1 (fun _ e=>.inl e)));clear hr hc1 m1 hD hie hown;go_wp2_with fail;refine HT.out.mono ?_;rintro e w4 ⟨rfl,ds',ht,hd4,m4⟩;have HF:=Lib.hid (show ReadP lab w s P (.returned (.tuple #[.pointer (some ⟨w.heap.size,0,none⟩),.bool true])) w4 from ⟨w.heap.size,ds,ds',dp,labz,rfl,HR.out.1,ht,hd4,HR.out.2.trans m4 (fun _ e=>.inl e)⟩);clear ht hd4 m4;go_wp2;go_ret2;exact HF.out
end
theorem run_frombits (n:Nat) (w:World):(callFunc 151 #[.int .u64 (n:Int)]).run Tryz.prog w=.ok (.value (.float .f64 n)) w:=by
 rw [run_callFunc_extern (e:=Extern.MathFloatBits.float64frombits) Tryz.func151 (by kernel_rfl) (by kernel_rfl) (by kernel_rfl) (by kernel_rfl)];rfl
theorem results_c1 {P:Program} {fn:Func} {p:Tmp} {ty:TypeId} {tmps:Array Value} {W:World} {a:Addr} {v:Value} (h:fn.results=#[.cell p ty]) (hp:tmps.getD p undef=.pointer (some a)) (hl:(loadVar ty a).run P W=.ok v W):(results fn tmps).run P W=.ok v W:=by
 rw [gdg] at hp;simp only [results,h];simp [asAddr,hp,hl]
section
variable {lab lab1:Lab} {w w1:World} {b ℓ:Nat}
set_option maxRecDepth 100000 in
set_option maxHeartbeats 4000000 in
theorem float_c (n:Nat):Calls Tryz.prog 112 #[form64,.int .u64 (n:Int)] w fun e w'=>e=.returned (.float .f64 n)∧Below w.heap.size w w':=by
 have hb:∀ o,Below w.heap.size w (w.alloc o):=fun o=>(Below.refl _ _).alloc (Nat.le_refl _) o
 have HB:=Lib.hid hb;have hr:=fun w=>run_frombits n w
 clear hb;unfold form64;go_enter Tryz.func112,Tryz.ntmps112;go_wp2;go_ret;exact ⟨rfl,HB.out _⟩
set_option maxRecDepth 100000 in
set_option maxHeartbeats 4000000 in
theorem formOf_c:Calls Tryz.prog 111 #[.int .i64 64] w fun e w'=>e=.returned form64∧Below w.heap.size w w':=by
 have hb:∀ o,Below w.heap.size w (w.alloc o):=fun o=>(Below.refl _ _).alloc (Nat.le_refl _) o
 have HB:=Lib.hid hb;clear hb;go_enter Tryz.func111,Tryz.ntmps111;go_wp2;refine bodyPost_ret (results_c1 rfl rfl (v:=form64) (by simp [go_sem,form64])) rfl ?_;exact ⟨rfl,HB.out _⟩
set_option maxRecDepth 100000 in
set_option maxHeartbeats 4000000 in
theorem fold_c {s t:ByteArray} (h0:0 < s.size) (h1:s.size≤1000) (hb:byteAt s 0≤57) (ht:0 < t.size) (ht1:t.size≤1000) (hc:97≤byteAt t 0):Calls Tryz.prog 108 #[.string s,.string t] w fun e w'=>e=.returned (.bool false)∧w'=w:=by
 have e0:=byteAt_get s 0 h0;have e1:=byteAt_get t 0 ht;have hlt:=byteAt_lt t 0;obtain ⟨x,hx⟩:∃ x,x=byteAt s 0:=⟨_,rfl⟩;obtain ⟨y,hy⟩:∃ y,y=byteAt t 0:=⟨_,rfl⟩;rw [← hx] at e0 hb;rw [← hy] at e1 hc hlt;have hx0:(0:Int)≤(x:Int):=Int.natCast_nonneg _;have hx1:(x:Int)≤57:=by omega
 have hy0:(97:Int)≤(y:Int):=by omega
 have hy1:(y:Int)≤255:=by omega
 have hxy:¬ (x:Int)=(y:Int):=by omega
 have hs0:(0:Int) < (s.size:Int):=by omega
 have hs1:(s.size:Int)≤1000:=by omega
 have ht0:(0:Int) < (t.size:Int):=by omega
 have ht2:(t.size:Int)≤1000:=by omega
 clear hx hy;go_enter Tryz.func108,Tryz.ntmps108;by_cases hne:s.size=t.size
 ·have hne':((s.size:Int) == (t.size:Int))=true:=beq_iff_eq.2 (by omega);go_wp2;go_loopw [5] (fun s5 wr=>s5=.int .i64 0∧wr=w) (fun _ _=>0)
  case atStart=>exact ⟨rfl,rfl⟩
  case round =>
   obtain ⟨rfl,hw⟩:=hrel;have hw':=hw.symm;subst hw';clear hw;go_wp2;go_ret;exact ⟨rfl,rfl⟩
 ·have hne':((s.size:Int) == (t.size:Int))=false:=bqf (by omega);go_wp2;go_ret;exact ⟨rfl,rfl⟩
set_option maxRecDepth 100000 in
set_option maxHeartbeats 4000000 in
theorem underscores_c {s:ByteArray} (h1:s.size≤1000) (hb:∀ i,i < s.size→byteAt s i ≠ 95):Calls Tryz.prog 114 #[.string s] w fun e w'=>e=.returned (.bool true)∧w'=w:=by
 have HB:=Lib.hid hb;have hs1:(s.size:Int)≤1000:=by omega
 clear hb;go_enter Tryz.func114,Tryz.ntmps114;go_wp2;go_loopw [3] (fun s3 wr=>∃ i:Nat,s3=.int .i64 (i:Int)∧wr=w∧i≤s.size) (fun s3 _=>s.size - (RowKit.intOf s3).toNat)
 case atStart=>exact ⟨0,rfl,rfl,Nat.zero_le _⟩
 case round =>
  obtain ⟨i,rfl,hw,hi⟩:=hrel;have hw':=hw.symm;subst hw';clear hw;have hi0:(0:Int)≤(i:Int):=Int.natCast_nonneg _;by_cases hlt:i < s.size
  ·have e0:=byteAt_get s i hlt;have hne:=HB.out i hlt;have hlt':(i:Int) < (s.size:Int):=by omega
   have hne':(((byteAt s i:Nat):Int) == 95)=false:=bqf (by omega);go_wp2;go_roundw
   case rel=>exact ⟨i + 1,by go_num,by first | rfl | trivial,by omega⟩
   case measure=>simp [RowKit.intOf];omega
  ·have hlt':¬ (i:Int) < (s.size:Int):=by omega
   go_wp2;go_ret;exact ⟨rfl,rfl⟩
end
def fRes (neg:Bool) (Q e:Nat):Nat:=Ieee.double.word neg ((e + 1018) * 2 ^ 52 + Q * 2 ^ (53 - e))
theorem fMant {Q e:Nat} (h1:2 ^ e≤2 * Q) (h2:Q < 2 ^ e) (h3:e≤53):2 ^ 52≤Q * 2 ^ (53 - e)∧Q * 2 ^ (53 - e) < 2 ^ 53:=by
 have e1:2 ^ e * 2 ^ (53 - e)=2 ^ 53:=by rw [← Nat.pow_add,show e + (53 - e)=53 from by omega]
 have a1:=Nat.mul_le_mul_right (2 ^ (53 - e)) h1;have a2:=Nat.mul_lt_mul_of_pos_right h2 (p2 (53 - e));rw [e1] at a1 a2;rw [Nat.mul_assoc] at a1;omega
theorem fRes_val (neg:Bool) {Q e:Nat} (h1:2 ^ e≤2 * Q) (h2:Q < 2 ^ e) (h3:e≤53) :
  dFin (f64.read (fRes neg Q e))∧dU (f64.read (fRes neg Q e))=(if neg then -1 else 1) * ((Q:Int) * 2 ^ 1071):=by
 obtain ⟨m1,m2⟩:=fMant h1 h2 h3;have hr:=read_rung neg (e + 1018) (Q * 2 ^ (53 - e)) (by omega) m2 (.inr m1);show dFin (Ieee.double.read (fRes neg Q e))∧dU (Ieee.double.read (fRes neg Q e))=_;unfold fRes;rw [hr];refine ⟨by show (-1074:Int)≤-1074 + ((e + 1018:Nat):Int);omega,?_⟩;rw [dU_val,show ((-1074:Int) + ((e + 1018:Nat):Int) + 1074).toNat=e + 1018 from by omega,Int.natCast_mul,Int.natCast_pow,Int.mul_assoc,show ((2:Nat):Int)=2 from rfl,← Int.pow_add,show 53 - e + (e + 1018)=1071 from by omega]
theorem word0_val (neg:Bool):dFin (f64.read (Ieee.double.word neg 0))∧dU (f64.read (Ieee.double.word neg 0))=0:=by
 show dFin (Ieee.double.read (Ieee.double.word neg 0))∧dU (Ieee.double.read (Ieee.double.word neg 0))=0
 rw [read_word0];refine ⟨by show (-1074:Int)≤-1074;omega,?_⟩;rw [dU_val];simp
def fOf (neg:Bool) (Q:Nat) (g:Nat):Prop:=(Q=0∧g=Ieee.double.word neg 0) ∨ ∃ e,2 ^ e≤2 * Q∧Q < 2 ^ e∧e≤53∧g=fRes neg Q e
theorem fOf_val {neg:Bool} {Q g:Nat} (h:fOf neg Q g):dFin (f64.read g)∧dU (f64.read g)=(if neg then -1 else 1) * ((Q:Int) * 2 ^ 1071):=by
 rcases h with ⟨rfl,rfl⟩ | ⟨e,h1,h2,h3,rfl⟩
 ·obtain ⟨h1,h2⟩:=word0_val neg;refine ⟨h1,h2.trans ?_⟩;rw [show ((0:Nat):Int)=0 from rfl,Int.zero_mul,Int.mul_zero]
 ·exact fRes_val neg h1 h2 h3
theorem neg_flip (n z:Int):-1 * (-n * z)=n * z:=by rw [Int.neg_mul,Int.one_mul,Int.neg_mul,Int.neg_neg]
theorem hasF_of (h:∀ n:Int,-1000000000 < n→n < 1000000000→∃ g,fOf (decide (n < 0)) n.natAbs g∧FltGives g (eiT n)):HasF:=fun f T ht=>by
 obtain ⟨n,h0,h1,h2,h3,rfl⟩:=ht;obtain ⟨g,hg,hf⟩:=h n h0 h1;refine ⟨g,?_,hf⟩;obtain ⟨a1,a2⟩:=fOf_val hg;show Ieee.Datum.order _ _=_;refine (order_eq a1 h2).2 ?_;rw [a2,h3];by_cases hn:n < 0
 ·have e1:((n.natAbs:Nat):Int)=-n:=by omega
  rw [decide_eq_true hn,if_pos rfl,e1];exact neg_flip n _
 ·have e1:((n.natAbs:Nat):Int)=n:=by omega
  rw [decide_eq_false hn,if_neg (by decide),Int.one_mul,e1]
theorem fOf_uniq {neg:Bool} {Q g g':Nat} (h:fOf neg Q g) (h':fOf neg Q g'):g=g':=by
 rcases h with ⟨h0,rfl⟩ | ⟨e,h1,h2,h3,rfl⟩
 ·rcases h' with ⟨_,rfl⟩ | ⟨e',k1,k2,k3,rfl⟩
  ·rfl
  ·subst h0;have:=p2 e';omega
 ·rcases h' with ⟨rfl,rfl⟩ | ⟨e',k1,k2,k3,rfl⟩
  ·have:=p2 e;omega
  ·have key:∀ a b:Nat,2 ^ a≤2 * Q→Q < 2 ^ b→a≤b:=fun a b x y=>by
    rcases Nat.lt_or_ge b a with hlt | hge
    ·have h4:2 ^ (b + 1)≤2 ^ a:=Nat.pow_le_pow_right (by decide) hlt;rw [Nat.pow_succ] at h4;omega
    ·exact hge
   have e1:=key e e' h1 k2;have e2:=key e' e k1 h2;rw [show e=e' from by omega]
theorem fOf_ex (neg:Bool) {Q:Nat} (hQ:Q < 2 ^ 30):∃ g,fOf neg Q g:=by
 rcases Nat.eq_zero_or_pos Q with h | h
 ·exact ⟨_,.inl ⟨h,rfl⟩⟩
 ·have h1:=Nat.log2_self_le (Nat.pos_iff_ne_zero.1 h);have h2:Q < 2 ^ (Q.log2 + 1):=Nat.lt_log2_self;have h3:Q.log2 < 30:=pow_lt_exp (Nat.lt_of_le_of_lt h1 hQ);exact ⟨_,.inr ⟨Q.log2 + 1,by rw [Nat.pow_succ];omega,h2,by omega,rfl⟩⟩
theorem or_sign {y:Nat} (h:y < 2 ^ 63):bits .or .u64 9223372036854775808 (y:Int)=((9223372036854775808 + y:Nat):Int):=by
 unfold bits;simp only [BitVec.toNat_or];have e1:=Nat.two_pow_add_eq_or_of_lt h 1;rw [Nat.mul_one] at e1;rw [show (9223372036854775808:Int)=((2 ^ 63:Nat):Int) from rfl,ofInt64 (m:=2 ^ 63) (by decide),ofInt64 (by omega),← e1,IntKind.wrap_u64];omega
theorem or_zero {y:Nat} (h:y < 2 ^ 63):bits .or .u64 0 (y:Int)=(y:Int):=by
 unfold bits;simp only [BitVec.toNat_or];rw [show (0:Int)=((0:Nat):Int) from rfl,ofInt64 (m:=0) (by decide),ofInt64 (by omega),Nat.zero_or,IntKind.wrap_u64];omega
def sgT (neg:Bool):ByteArray:=if neg then ⟨#[45]⟩ else ⟨#[]⟩
theorem bits_word (neg:Bool) {y:Nat} (h:y < 2 ^ 63):bits .or .u64 (if neg then 9223372036854775808 else 0) (y:Int)=((Ieee.double.word neg y:Nat):Int):=by
 cases neg
 ·rw [if_neg (by decide),or_zero h];rfl
 ·rw [if_pos rfl,or_sign h];have:Ieee.double.word true y=2 ^ 63 + y:=by
   unfold Ieee.Format.word;rw [if_pos rfl];rfl
  rw [this]
theorem sg_cut (t:ByteArray):(⟨#[45]⟩ ++ t:ByteArray).extract 1 (⟨#[45]⟩ ++ t:ByteArray).size=t:=by
 exact ByteArray.extract_append_eq_right rfl (by rw [bsa])
theorem dv_pos {ds:List Nat} (h:ds=[] ∨ ds.getD 0 0 ≠ 0) (h0:dv ds=0):ds=[]:=by
 rcases h with h | h
 ·exact h
 ·rcases Decidable.em (ds=[]) with e | e
  ·exact e
  ·have h1:=dv_ge e h;have h2:=p10 (ds.length - 1);omega
theorem bitsAll {lab:Lab} {w:World} {b:Nat} {ds ds':List Nat} {dp:Int} {t:ByteArray} {P Q:Nat} (hD:DAt lab w b ds' (if ds'=[] then 0 else dp)) (hr:RdG t P t.size ds dp) (ht:Trim ds ds') (hT:RdT t P) (hX:xv t P t.size=125 * Q) (hQ:Q < 2 ^ 30) :
  Calls Tryz.prog 116 #[.pointer (some ⟨b,0,none⟩),form64] w fun e w'=>∃ y,y < 2 ^ 63∧(∀ neg,fOf neg Q (Ieee.double.word neg y))∧e=.returned (.tuple #[.int .u64 (y:Int),.bool false])∧∃ lab',Mv DM w lab w' lab':=by
 have hsz:=hT.sz;have hle:=hT.le;have hlen:=hr.len;have hv:=hr.val;rw [hX] at hv;rcases Nat.eq_zero_or_pos Q with h0 | h0
 ·subst h0;have hds:=dv_pos hr.hd (by omega);subst hds;have hds':ds'=[]:=by
   obtain ⟨z,e,_⟩:=ht;exact (List.append_eq_nil_iff.1 e.symm).1
  subst hds';rw [if_pos rfl] at hD;refine (bits0_c hD).mono ?_;rintro e w' ⟨rfl,lab',m⟩;exact ⟨0,by decide,fun neg=>.inl ⟨rfl,rfl⟩,rfl,lab',m⟩
 ·obtain ⟨h3,hdec⟩:=dec_of_read hr.dg hv h0 hr.hd ht;rw [if_neg hdec.ne] at hD;have hdp:dp=((ds.length - 3:Nat):Int):=by
   have:=hr.dp;rw [if_pos (by omega)] at this;omega
  rw [hdp] at hD;have hl':ds'.length≤ds.length:=by
   obtain ⟨z,e,_⟩:=ht;rw [e,List.length_append];omega
  refine (bits_c hD hdec hQ (by omega)).mono ?_;rintro e w' ⟨ex,a1,a2,a3,rfl,lab',m⟩;have hM:=fMant a1 a2 a3;exact ⟨_,by omega,fun neg=>.inr ⟨ex,a1,a2,a3,rfl⟩,rfl,lab',m⟩
section
variable {w:World}
set_option maxRecDepth 100000 in
set_option maxHeartbeats 8000000 in
theorem pf_c {s t:ByteArray} {P Q:Nat} (neg:Bool) (hs:s=sgT neg ++ t) (hT:RdT t P) (hX:xv t P t.size=125 * Q) (hQ:Q < 2 ^ 30) :
  Calls Tryz.prog 71 #[.string s,.int .i64 64] w fun e w'=>(∃ g,fOf neg Q g∧e=.returned (.tuple #[.float .f64 g,.nilIface]))∧Below w.heap.size w w':=by
 have htz:=hT.sz;have htl:=hT.le;have htp:=hT.p1;have ht0:48≤byteAt t 0∧byteAt t 0≤57:=hT.dg 0 (by omega) (by omega);have hs0:0 < s.size∧s.size≤101∧byteAt s 0≤57∧(∀ i,i < s.size→byteAt s i ≠ 95)∧(neg=false→s=t)∧(neg=true→byteAt s 0=45∧s.extract 1 s.size=t):=by
  cases neg with
  | false =>
   have e:s=t:=by rw [hs];exact ByteArray.empty_append
   subst e;refine ⟨by omega,by omega,ht0.2,fun i hi=>?_,fun _=>rfl,fun h=>by cases h⟩;by_cases hp:i=P
   ·rw [hp,hT.pt];decide
   ·have:=hT.dg i hi hp;omega
  | true =>
   have e:s=⟨#[45]⟩ ++ t:=hs;have z1:(⟨#[45]⟩:ByteArray).size=1:=rfl;have hz:s.size=1 + t.size:=by rw [e,bsa,z1]
   have hb0:byteAt s 0=45:=by rw [e,byteAt_app_left _ _ 0 (by decide)];rfl
   refine ⟨by omega,by omega,by omega,fun i hi=>?_,(fun h=>by cases h),fun _=>⟨hb0,by rw [e];exact sg_cut t⟩⟩;rcases Nat.eq_zero_or_pos i with rfl | hi0
   ·omega
   ·have e2:byteAt s i=byteAt t (i - 1):=by
     rw [e,show i=(⟨#[45]⟩:ByteArray).size + (i - 1) from by rw [z1];omega,byteAt_app_right,z1,show 1 + (i - 1) - 1=i - 1 from by omega]
    rw [e2];by_cases hp:i - 1=P
    ·rw [hp,hT.pt];decide
    ·have:=hT.dg (i - 1) (by omega) hp;omega
 obtain ⟨s0,s1,s57,s95,sneg0,sneg1⟩:=hs0;have HF:=Lib.hid (fun (w:World)=>fold_c (w:=w) (s:=s) (t:=⟨#[110,97,110]⟩) s0 (by omega) s57 (by decide) (by decide) (by decide));have HF2:=Lib.hid (fun (w:World)=>fold_c (w:=w) (s:=t) (t:=⟨#[105,110,102]⟩) (by omega) (by omega) ht0.2 (by decide) (by decide) (by decide));have HF3:=Lib.hid (fun (w:World)=>fold_c (w:=w) (s:=t) (t:=⟨#[105,110,102,105,110,105,116,121]⟩) (by omega) (by omega) ht0.2 (by decide) (by decide) (by decide));have HU:=Lib.hid (fun (w:World)=>underscores_c (w:=w) (s:=s) (by omega) s95);have HR:=Lib.hid (fun (lab:Lab) (w:World)=>read_c (lab:=lab) (w:=w) hT);have HX:=Lib.hid (aI hX (aI hQ hT));have e0:=byteAt_get s 0 s0;have hsz1:(1:Int)≤(s.size:Int):=by omega
 have hszm:(s.size:Int)≤101:=by omega
 have hsne:s.toList.isEmpty=false:=toList_some s0;have h43:(((byteAt s 0:Nat):Int) == 43)=false:=by
  cases neg with
  | false=>rw [sneg0 rfl];exact bqf (by omega)
  | true=>exact bqf (by have:=(sneg1 rfl).1;omega)
 have h45:(((byteAt s 0:Nat):Int) == 45)=neg:=by
  cases neg with
  | false=>rw [sneg0 rfl];exact bqf (by omega)
  | true=>exact beq_iff_eq.2 (by have:=(sneg1 rfl).1;omega)
 clear hT hX hQ htz htl htp s95 hs;go_enter Tryz.func71,Tryz.ntmps71;go_wp2_with fail;refine (HF.out _).mono ?_;rintro e w1 ⟨rfl,rfl⟩;go_upto_if 33 with fail
 go_cut [6,7] from 34 to 38 (fun s6 s7 wx=>s6=.string t∧s7=.bool neg∧Below w1.heap.size w1 wx)
 case first =>
  cases neg with
  | false =>
   have hst:=sneg0 rfl;subst hst;go_wp2;go_meet
   case rel=>exact ⟨rfl,rfl,Below.refl _ _⟩
  | true =>
   obtain ⟨e45,hcut⟩:=sneg1 rfl;have hb:∀ n,Below w1.heap.size w1 (w1.drewN n):=fun n=>⟨rfl,rfl,rfl,Nat.le_refl _,fun _ _=>rfl⟩
   have H45:=Lib.hid h45;clear e45 h45 sneg0 sneg1;have hsz3:(0:Int) < (s.size:Int):=by omega
   go_wp2;go_quiet (fail);go_wp2;go_meet
   case rel=>exact ⟨by first | rfl | rw [hcut] | simp [hcut],by rw [H45.out],hb _⟩
 case rest =>
  obtain ⟨rfl,rfl,hbw⟩:=hcut;have HBW:=Lib.hid hbw;clear hbw sneg0 sneg1;go_wp2_with fail;have hfo:=formOf_c (w:=wc);unfold form64 at hfo;refine hfo.mono ?_;rintro e w2 ⟨rfl,hb2⟩;obtain ⟨wF,hwF⟩:∃ x,x=w2.alloc (.cells #[.int .i64 52,.int .i64 11,.int .i64 (-1023)] 166):=⟨_,rfl⟩;obtain ⟨labF,hlF⟩:∃ x,x=Lab.ext (fun _=>0) w2.heap.size 63:=⟨_,rfl⟩;have hA:Cl 63 labF wF w2.heap.size #[.int .i64 52,.int .i64 11,.int .i64 (-1023)] 166:=by rw [hwF,hlF];exact Cl.alloc w2 _ _ 166 63
  have hBF:Below w1.heap.size w1 wF:=by
   rw [hwF];exact ((HBW.out.trans (hb2.mono HBW.out.size)).alloc (Nat.le_trans HBW.out.size hb2.size) _)
  have hlb:∀ k,k < w1.heap.size→¬ DM (labF k):=fun k hk=>by
   have hz:k < w2.heap.size:=Nat.lt_of_lt_of_le hk (Nat.le_trans HBW.out.size hb2.size);rw [hlF,Lab.ext_lt hz]
   decide
  have f0:wF.cell? ⟨w2.heap.size,0,none⟩=some (.int .i64 52):=hA.cell 0;have f1:wF.cell? ⟨w2.heap.size,1,none⟩=some (.int .i64 11):=hA.cell 1;have f2:wF.cell? ⟨w2.heap.size,2,none⟩=some (.int .i64 (-1023)):=hA.cell 2;have HA:=Lib.hid (aI hA (aI hBF hlb));clear hA hBF hlb hlF hb2 hfo;obtain ⟨sgn,hsgn⟩:∃ v:Int,v=if neg then 9223372036854775808 else 0:=⟨_,rfl⟩
  have HSG:=Lib.hid hsgn;clear hsgn;go_upto_if 41 with fail
  rw [← hwF];clear hwF;go_cut [9] from 42 to 47 (fun s9 wx=>s9=.int .u64 sgn∧wx=wF)
  case first =>
   cases neg with
   | false =>
    go_wp2;go_meet
    case rel=>exact ⟨by rw [HSG.out];rfl,rfl⟩
   | true =>
    go_wp2;go_meet
    case rel=>exact ⟨by rw [HSG.out];rfl,rfl⟩
  case rest =>
   obtain ⟨rfl,hw⟩:=hcut;have hw':=hw.symm;subst hw';clear hw;go_wp2_with fail;refine (HF2.out _).mono ?_;rintro e w3 ⟨rfl,rfl⟩;go_wp2_with fail;refine (HF3.out _).mono ?_;rintro e w4 ⟨rfl,rfl⟩;go_wp2_with fail;refine (HR.out labF _).mono ?_;rintro e w5 ⟨b,ds,ds',dp,lab5,rfl,hrd,htr,hD,hm⟩;have HD:=Lib.hid (aI hrd (aI htr (aI hD (aI (HA.out.1.mv hm (by decide)) hm))));have g0:w5.cell? ⟨w2.heap.size,0,none⟩=some (.int .i64 52):=HD.out.2.2.2.1.cell 0;have g1:w5.cell? ⟨w2.heap.size,1,none⟩=some (.int .i64 11):=HD.out.2.2.2.1.cell 1;have g2:w5.cell? ⟨w2.heap.size,2,none⟩=some (.int .i64 (-1023)):=HD.out.2.2.2.1.cell 2;clear hrd htr hD hm;go_wp2_with fail;refine (HU.out _).mono ?_;rintro e w6 ⟨rfl,rfl⟩;go_wp2_with fail;have hbits:=bitsAll HD.out.2.2.1 HD.out.1 HD.out.2.1 HX.out.2.2 HX.out.1 HX.out.2.1;unfold form64 at hbits;refine hbits.mono ?_;rintro e w7 ⟨y,hy,hf,rfl,lab7,m7⟩;have hc7:=HD.out.2.2.2.1.mv m7 (by decide);have k0:w7.cell? ⟨w2.heap.size,0,none⟩=some (.int .i64 52):=hc7.cell 0;have k1:w7.cell? ⟨w2.heap.size,1,none⟩=some (.int .i64 11):=hc7.cell 1;have k2:w7.cell? ⟨w2.heap.size,2,none⟩=some (.int .i64 (-1023)):=hc7.cell 2;have hor:=bits_word neg hy;rw [← HSG.out] at hor;have hb7:Below w1.heap.size w1 w7:=HA.out.2.1.trans ((HD.out.2.2.2.2.trans m7 (fun _ h=>h)).toBelow HA.out.2.1.size HA.out.2.2);have H7:=Lib.hid (aI (hf neg) hb7);obtain ⟨g,hg⟩:∃ g,g=Ieee.double.word neg y:=⟨_,rfl⟩;rw [← hg] at hor H7;clear hg hf hb7 hc7 m7 hbits hy;go_wp2_with fail;have hfl:=float_c (w:=w7) g;unfold form64 at hfl;refine hfl.mono ?_;rintro e w8 ⟨rfl,hb8⟩;have H8:=Lib.hid (H7.out.2.trans (hb8.mono H7.out.2.size));clear hb8 hfl;go_wp2;go_ret2;exact ⟨⟨g,H7.out.1,rfl⟩,H8.out⟩
end
def ptT (m:Nat) (F:ByteArray):ByteArray:=decB m ++ (⟨#[46]⟩ ++ F)
theorem fltT_pt (sg:ByteArray) (m:Nat) (F:ByteArray):fltT sg m F=sg ++ ptT m F:=by
 unfold fltT ptT;simp only [ByteArray.append_assoc]
theorem pt_left {m:Nat} {F:ByteArray} {i:Nat} (h:i < (decB m).size):byteAt (ptT m F) i=byteAt (decB m) i:=byteAt_app_left _ _ _ h
theorem pt_mid (m:Nat) (F:ByteArray):byteAt (ptT m F) (decB m).size=46:=by
 have:=byteAt_app_right (decB m) (⟨#[46]⟩ ++ F) 0;rw [Nat.add_zero] at this;unfold ptT;rw [this,byteAt_app_left _ _ 0 (by decide)];rfl
theorem pt_right (m:Nat) (F:ByteArray) (i:Nat):byteAt (ptT m F) ((decB m).size + 1 + i)=byteAt F i:=by
 have h:=byteAt_app_right (decB m) (⟨#[46]⟩ ++ F) (1 + i);have h2:=byteAt_app_right ⟨#[46]⟩ F i;unfold ptT;rw [Nat.add_assoc,h];exact h2
theorem xv_pt (m:Nat) (F:ByteArray):∀ i,i≤(decB m).size→xv (ptT m F) (decB m).size i=numOf ((decB m).data.toList.take i)
 | 0,_=>rfl
 | i + 1,h=>by
  rw [xv,if_neg (by omega),xv_pt m F i (by omega),numOf_take _ i (by omega),pt_left (by omega),Nat.mul_comm]
theorem xv_all {m:Nat} {F:ByteArray}:xv (ptT m F) (decB m).size ((decB m).size + 4)=10 * (10 * (10 * m + (byteAt F 0 - 48)) + (byteAt F 1 - 48)) + (byteAt F 2 - 48):=by
 have h0:xv (ptT m F) (decB m).size (decB m).size=m:=by
  rw [xv_pt m F _ (Nat.le_refl _),← data_length,List.take_length,decB_num]
 have h1:xv (ptT m F) (decB m).size ((decB m).size + 1)=m:=by rw [xv,if_pos rfl,h0]
 have e0:=pt_right m F 0;have e1:=pt_right m F 1;have e2:=pt_right m F 2;rw [Nat.add_zero] at e0;rw [show (decB m).size + 4=(decB m).size + 1 + 1 + 1 + 1 from rfl,xv,if_neg (by omega),xv,if_neg (by omega),xv,if_neg (by omega),h1,e0,show (decB m).size + 1 + 1 + 1=(decB m).size + 1 + 2 from rfl,e1,e2]
theorem rdT_pt {m:Nat} (hm:m < 10 ^ 9) {F:ByteArray} (hF:F.size=3) (hd:∀ i,i < F.size→48≤byteAt F i∧byteAt F i≤57):RdT (ptT m F) (decB m).size:=by
 have hl:=decS_len m 8 hm;have hz:(decB m).size=(decS m).length:=by simp [decB,ByteArray.size]
 have z1:(⟨#[46]⟩:ByteArray).size=1:=rfl;have hs:(ptT m F).size=(decB m).size + 4:=by
  unfold ptT;rw [bsa,bsa,z1,hF]
 refine ⟨by omega,hs,by omega,pt_mid m F,fun i hi hne=>?_⟩;rcases Nat.lt_or_ge i (decB m).size with h | h
 ·rw [pt_left h];exact decB_dig m i h
 ·have e:i=(decB m).size + 1 + (i - (decB m).size - 1):=by omega
  rw [e,pt_right];exact hd _ (by omega)
theorem frT_val:∀ r,r < 8→(frT r).size=3∧(∀ i,i < (frT r).size→48≤byteAt (frT r) i∧byteAt (frT r) i≤57)∧10 * (10 * (byteAt (frT r) 0 - 48) + (byteAt (frT r) 1 - 48)) + (byteAt (frT r) 2 - 48)=125 * r:=by
 intro r hr
 match r,hr with
 | 0,_ | 1,_ | 2,_ | 3,_ | 4,_ | 5,_ | 6,_ | 7,_=>exact ⟨rfl,by decide,by decide⟩
theorem hasF:HasF:=hasF_of fun n h0 h1=>by
 have hQ:n.natAbs < 2 ^ 30:=by omega
 obtain ⟨g,hg⟩:=fOf_ex (decide (n < 0)) hQ;refine ⟨g,hg,fun w=>?_⟩;obtain ⟨f1,f2,f3⟩:=frT_val (n.natAbs % 8) (Nat.mod_lt _ (by decide));have hm:n.natAbs / 8 < 10 ^ 9:=by omega
 have hT:=rdT_pt hm f1 f2;have hX:=xv_all (m:=n.natAbs / 8) (F:=frT (n.natAbs % 8));have hsz:=hT.sz;rw [← hsz] at hX;have hs:eiT n=sgT (decide (n < 0)) ++ ptT (n.natAbs / 8) (frT (n.natAbs % 8)):=by
  unfold eiT sgT;rw [fltT_pt];by_cases hn:n < 0
  ·rw [if_pos hn,decide_eq_true hn,if_pos rfl]
  ·rw [if_neg hn,decide_eq_false hn,if_neg (by decide)]
 refine (pf_c (decide (n < 0)) hs hT (Q:=n.natAbs) (by omega) hQ).mono ?_;rintro e w' ⟨⟨g',hg',rfl⟩,hb⟩;rw [fOf_uniq hg hg'];exact ⟨rfl,hb⟩
def wtM:Nat→Nat
 | 0=>0
 | 1=>1
 | d + 2=>1 + 8 * (1 + wtM (d + 1))
theorem wts_le (N:Nat):∀ l:List JV,(∀ x ∈ l,wt x≤N)→wts l≤l.length * (1 + N)
 | [],_=>by simp [wts]
 | j :: r,h=>by
  have h1:=h j (List.mem_cons_self ..);have h2:=wts_le N r fun x hx=>h x (List.mem_cons_of_mem _ hx)
  simp only [wts,List.length_cons,Nat.add_mul,Nat.one_mul];omega
theorem jt_one {j:JV} (h:JT 1 j):j.kids=[]:=by
 have no:∀ l:List JV,(∀ x ∈ l,JT 0 x)→l=[]:=fun l h=>by
  cases l with
  | nil=>rfl
  | cons x r=>have:=h x (List.mem_cons_self ..);simp only [JT] at this
 cases j with
 | arr l=>simp only [JT] at h;exact no l h.2
 | map ks l=>simp only [JT] at h;exact no l h.2.2.2
 | _=>rfl
theorem jt_kids {d:Nat} {j:JV} (h:JT (d + 1) j):j.kids.length≤8∧j.keys.length≤8∧∀ x ∈ j.kids,JT d x:=by
 cases j with
 | arr l=>simp only [JT] at h;exact ⟨h.1,by simp [JV.keys],h.2⟩
 | map ks l=>simp only [JT] at h;exact ⟨h.2.1,h.1,h.2.2.2⟩
 | _=>exact ⟨by simp [JV.kids],by simp [JV.keys],fun x hx=>by simp [JV.kids] at hx⟩
theorem wt_le:∀ (d:Nat) (j:JV),JT d j→wt j≤wtM d
 | 0,_,h=>by simp only [JT] at h
 | 1,j,h=>by
  rw [wt_eq,jt_one h];simp [wts,wtM]
 | d + 2,j,h=>by
  obtain ⟨h1,_,h2⟩:=jt_kids h;have h3:=wts_le (wtM (d + 1)) j.kids fun x hx=>wt_le (d + 1) x (h2 x hx)
  have h4:=Nat.mul_le_mul_right (1 + wtM (d + 1)) h1;rw [wt_eq,wtM];omega
def inM:Nat→Nat
 | 0=>0
 | d + 1=>8 + 8 * inM d
theorem inns_le (N:Nat):∀ l:List JV,(∀ x ∈ l,(innK x).length≤N)→(innKs l).length≤l.length * N
 | [],_=>by simp [innKs]
 | j :: r,h=>by
  have h1:=h j (List.mem_cons_self ..);have h2:=inns_le N r fun x hx=>h x (List.mem_cons_of_mem _ hx)
  simp only [innKs,List.length_append,List.length_cons,Nat.add_mul,Nat.one_mul];omega
theorem inn_le:∀ (d:Nat) (j:JV),JT d j→(innK j).length≤inM d
 | 0,_,h=>by simp only [JT] at h
 | d + 1,j,h=>by
  obtain ⟨h1,h0,h2⟩:=jt_kids h;have h3:=inns_le (inM d) j.kids fun x hx=>inn_le d x (h2 x hx)
  have h4:=Nat.mul_le_mul_right (inM d) h1;rw [innK_eq,List.length_append,inM];omega
theorem small_top {ks:List ByteArray} {l:List JV} (h:JT 6 (.map ks l)):wts l≤100000∧(innKs l).length≤400000:=by
 obtain ⟨h1,_,h2⟩:=jt_kids h;have h1':l.length≤8:=h1;have h3:=wts_le (wtM 5) l fun x hx=>wt_le 5 x (h2 x hx)
 have h4:=inns_le (inM 5) l fun x hx=>inn_le 5 x (h2 x hx)
 have e1:wtM 5=9361:=rfl;have e2:inM 5=37448:=rfl;rw [e1] at h3;rw [e2] at h4;omega
attribute [local go_sem] run_store_flt
section
variable {B:Nat} {lab lab1:Lab} {w w1:World}
theorem isC.one {k:ByteArray} {n:Int} {c:Array Value} (h:isC B lab w [(k,.int n)] c):∃ gk ck gl cl,c=ndC 6 0 0 false { data:=#[] } (.slice (some ⟨gk,0,none⟩) 1 ck) (.slice (some ⟨gl,0,none⟩) 1 cl) ∧
  w.cell? ⟨gk,0,none⟩=some (.string k)∧w.cell? ⟨gl,0,none⟩=some (.int .i64 1)∧w.cell? ⟨gl,1,none⟩=some (.int .i64 n)∧gk < w.heap.size∧gl < w.heap.size:=by
 simp only [isC,isN,List.map_cons,List.map_nil,List.length_cons,List.length_nil] at h;obtain ⟨kv,lv,cs,rfl,hk,hl,hn⟩:=h;obtain ⟨gk,ck,rfl,_,hgk⟩:=hk.1.form (by decide);obtain ⟨gl,cl,rfl,_,hgl⟩:=hl.1.form (by decide)
 match cs,hn with
 | [c0],hn =>
  simp only [isNs,isN,and_true] at hn;subst hn;refine ⟨gk,ck,gl,cl,rfl,?_,?_,?_,hgk,hgl⟩
  ·rw [hk.1.cellAt 0 (by decide)];rfl
  ·rw [hl.1.cellAt 0 (by decide)];rfl
  ·rw [hl.1.cellAt 1 (by decide)];rfl
 | [],hn=>simp [isNs] at hn
 | _ :: _ :: _,hn=>simp [isNs] at hn
theorem read_awake:ReadAs ⟨#[97,32,61,32,53,10]⟩ [(⟨#[97]⟩,.int 5)]:=by
 have h:=ra_plain ⟨#[53]⟩ (by intro i hi;match i,hi with | 0,_=>decide) (by decide) (by decide) (by decide);have e:szText ⟨#[53]⟩ ⟨#[]⟩=⟨#[97,32,61,32,53,10]⟩:=by decide
 rw [e] at h;exact h
set_option maxRecDepth 100000 in
set_option maxHeartbeats 1000000 in
theorem awake_c (htb:Tb lab w):Calls Tryz.prog 13 #[] w fun e w'=>e=.returned (.bool true)∧∃ lab',Mv PM w lab w' lab':=by
 go_enter Tryz.func13,Tryz.ntmps13;go_wp2_with fail;refine (Conf_c (B:=0) _ _ (Nat.zero_le _) htb read_awake (by simp [JV.fits,fitsL])).mono ?_;rintro e w1 ⟨c,lab1,rfl,hc,m⟩;obtain ⟨gk,ck,gl,cl,rfl,h1,h2,h3,hk,hl⟩:=hc.one;have q1:∀ o,(w1.alloc o).cell? ⟨gk,0,none⟩=some (.string ⟨#[97]⟩):=fun o=>(World.cell?_alloc_lt _ _ _ hk).trans h1
 have q2:∀ o,(w1.alloc o).cell? ⟨gl,0,none⟩=some (.int .i64 1):=fun o=>(World.cell?_alloc_lt _ _ _ hl).trans h2
 have q3:∀ o,(w1.alloc o).cell? ⟨gl,1,none⟩=some (.int .i64 5):=fun o=>(World.cell?_alloc_lt _ _ _ hl).trans h3
 have HM:=Lib.hid m;clear m hc h1 h2 h3;go_wp2;go_ret;exact ⟨rfl,_,HM.out.trans (Mv.alloc (M:=fun _=>False) _ _ _ 33) (fun _ (h:False)=>h.elim)⟩
end
end Go.Cf
namespace Go.Cf
open Go.RowKit Go.Conc Go.Proofs
section
variable {l:List JV} {kl:List ByteArray} {T:ByteArray} {U:List ByteArray} {P:Pls} {envF:List (ByteArray × JV)} {path:ByteArray} {ln:Nat} {k:ByteArray}
end
attribute [local go_sem] run_store_flt
section
variable {w w1 w2:World} {j:JV} {c:Array Value} {sv:Value} {style:List UInt8}
set_option maxRecDepth 100000 in
set_option maxHeartbeats 4000000 in
theorem written_no {k n:Int} {f:Nat} {is:Bool} {t:ByteArray} {kv lv:Value} {ss:Option Addr} {sl sc:Nat} (hk:k ≠ 6):Calls Tryz.prog 14 #[.agg (ndC k n f is t kv lv),.slice ss sl sc] w fun e w'=>(∃ pv,e=.returned (.tuple #[.string ⟨#[]⟩,pv,.bool false]))∧Below w.heap.size w w':=by
 have hb:∀ o o2 o3,Below w.heap.size w (((w.alloc o).alloc o2).alloc o3):=fun o o2 o3=>(((Below.refl _ _).alloc (Nat.le_refl _) o).alloc (by rw [World.size_alloc];omega) o2).alloc (by rw [World.size_alloc,World.size_alloc];omega) o3
 have HB:=Lib.hid hb;have hk':¬ k=6:=hk;have hkb:(k != 6)=true:=bne_iff_ne.2 hk;clear hb hk;unfold ndC;go_enter Tryz.func14,Tryz.ntmps14;go_wp2;refine bodyPost_ret (results_tct rfl rfl (v:=.slice none 0 0) (by simp [go_sem])) rfl ?_;exact ⟨⟨_,rfl⟩,HB.out _ _ _⟩
theorem awakeL (h:Tb L0 w):Calls Tryz.prog 13 #[] w fun e w'=>e=.returned (.bool true)∧Below w.heap.size w w':=by
 refine (awake_c h).mono ?_;rintro e w' ⟨rfl,lab',m⟩;exact ⟨rfl,m.toBelow (Nat.le_refl _) (fun _ _ h=>h.1 rfl)⟩
end
end Go.Cf
namespace Go.Cf
open Go.RowKit Go.Conc Go.Proofs
attribute [local go_sem] run_store_flt
theorem jvb_of:∀ (d:Nat) (j:JV),JT d j→JVb d j
 | 0,_,h=>by simp only [JT] at h
 | d + 1,j,h=>by
  cases j with
  | map ks l=>simp only [JT] at h;simp only [JVb];exact ⟨h.1,h.2.2.1,fun x hx=>jvb_of d x (h.2.2.2 x hx)⟩
  | int v=>simp only [JVb]
  | num v=>simp only [JVb]
  | tr v=>simp only [JVb]
  | txt v=>simp only [JVb]
  | arr v=>simp only [JVb]
section
variable {w w1 w2:World} {j:JV} {c:Array Value} {sv:Value} {style:List UInt8} {a:Option Addr} {cc:Nat}
def WrQ (w:World) (j:JV) (e:Ending) (w':World):Prop :=
 ∃ T pv ok,e=.returned (.tuple #[.string T,pv,.bool ok])∧T.size≤1000000000∧Below w.heap.size w w'∧(ok=true→∃ ks l,j=.map ks l∧∃ T0 U P envF,(T=T0 ∨ T=⟨#[123]⟩ ++ (T0 ++ ⟨#[125]⟩))∧T.size≤20000∧GE true [] ⟨#[]⟩ 0 ks l T0 U P envF∧ks.Pairwise ltB∧P.length≤100000∧∃ a c,pv=.slice a P.length c∧PlsIn w' a (wantO U P))
theorem writtenQ_all (hv:NdV 0 L0 w j c) (hj:JT 6 j) (hs:Sty L0 w sv style):Calls Tryz.prog 14 #[.agg c,sv] w (WrQ w j):=by
 obtain ⟨ss,sl,sc,rfl⟩:∃ ss sl sc,sv=.slice ss sl sc:=by
  obtain ⟨a,c,h,_⟩:=hs;exact ⟨_,_,_,h⟩
 have no:∀ {k n:Int} {f:Nat} {is:Bool} {t:ByteArray} {kv lv:Value},k ≠ 6→Calls Tryz.prog 14 #[.agg (ndC k n f is t kv lv),.slice ss sl sc] w (WrQ w j):=fun hk=>by
  refine (written_no hk).mono ?_;rintro e w' ⟨⟨pv,rfl⟩,hb⟩;exact ⟨_,pv,false,rfl,Nat.zero_le _,hb,fun h=>by cases h⟩
 cases j with
 | map ks l =>
  obtain ⟨s1,s2⟩:=small_top hj;refine (written_q ks l hv ⟨6,hj⟩ hs s1 s2).mono ?_;rintro e w' ⟨T,pv,ok,rfl,hT,lab',m,hok⟩;refine ⟨T,pv,ok,rfl,hT,m.toBelow (Nat.le_refl _) (fun k _ h=>by have h1:40≤L0 k:=h.1;exact absurd h1 (show ¬ 40≤0 by decide)),fun h=>?_⟩;obtain ⟨T0,U,P,envF,g1,g2,g3,g4,g5,hr⟩:=hok h;obtain ⟨a,c,rfl⟩:=own_slice hr.1;exact ⟨ks,l,rfl,T0,U,P,envF,g1,g2,g3,g4,g5,a,c,rfl,hr.plsIn⟩
 | int v=>simp only [NdV] at hv;obtain ⟨f,a1,c1,a2,c2,hf,rfl⟩:=hv;exact no (by decide)
 | num v=>simp only [NdV] at hv;obtain ⟨a1,c1,a2,c2,rfl⟩:=hv;exact no (by decide)
 | tr v=>simp only [NdV] at hv;obtain ⟨f,a1,c1,a2,c2,hf,rfl⟩:=hv;exact no (by decide)
 | txt v=>simp only [NdV] at hv;obtain ⟨f,a1,c1,a2,c2,hf,rfl⟩:=hv;exact no (by decide)
 | arr l=>simp only [NdV] at hv;obtain ⟨f,a1,c1,a2,c2,hf,rfl,_⟩:=hv;exact no (by decide)
theorem places_read {ks:List ByteArray} {l:List JV} {T T0:ByteArray} {U:List ByteArray} {P:Pls} {envF:List (ByteArray × JV)} (htb:Tb L0 w) (hj:JT 6 (.map ks l)) (hT:T=T0 ∨ T=⟨#[123]⟩ ++ (T0 ++ ⟨#[125]⟩)) (hs:T.size≤20000) (hg:GE true [] ⟨#[]⟩ 0 ks l T0 U P envF) (hp:ks.Pairwise ltB) :
  Calls Tryz.prog 20 #[.string T] w fun e w'=>∃ (xs:List PE) (xa:Option Addr) (xc:Nat),e=.returned (.tuple #[.slice xa xs.length xc,.int .i64 0])∧PlsIn w' xa xs∧xs.map triO=fusd U P∧Below w.heap.size w w':=by
 have ht:Told T ⟨#[]⟩ ks l U P:=by
  rcases hT with rfl | rfl
  ·exact readQ_top hasF hg (by omega) (asc_of hp)
  ·exact readQ_brace hasF hg (by omega) (asc_of hp)
 obtain ⟨m,h1,h2,h3⟩:=told_tv ht (d:=5) (jvb_of 6 _ hj);refine (Places_c T m htb h1 h3).mono ?_;rintro e w' ⟨v,out,lab',rfl,hr,ho,hb⟩;obtain ⟨xa,xc,rfl⟩:=own_slice hr.1;exact ⟨out,xa,xc,rfl,hr.plsIn,ho.trans h2,hb⟩
set_option maxRecDepth 100000 in
set_option maxHeartbeats 8000000 in
theorem FnConfPlaces_below (hr:NdR w 6 c) (hs:Sty L0 w (.slice a style.length cc) style) (hsl:style.length≤maxLen) (htb:Tb L0 w) :
  Calls Tryz.prog 9 #[.agg c,.slice a style.length cc] w fun e w'=>e=.returned (.bool true)∧Below w.heap.size w w':=by
 have hr2:=hr;unfold NdR at hr2;obtain ⟨k,n,f,is,t,a1,m1,c1,a2,m2,c2,rfl,n0,n1,ht,h1,h2,hk,-⟩:=hr2;have hb:∀ o,Below w.heap.size w (w.alloc o):=fun o=>(Below.refl _ _).alloc (Nat.le_refl _) o
 have hft:=fun o=>fits1_c (w:=w.alloc o) (k:=k) (n:=n) (f:=f) (is:=is) (t:=t) (a1:=a1) (c1:=c1) (a2:=a2) (c2:=c2) h1 (hk.below (hb o)) ht h2
 have hsx:(style.length:Int)≤9223372036854775807:=by unfold maxLen at hsl;omega
 have HB:=Lib.hid hb;have HFT:=Lib.hid hft;have HS:=Lib.hid (aI hs htb);have HR:=Lib.hid hr;clear hb hft hs htb hk hr h1 h2 ht hsl;unfold nodV at *;unfold ndC at *;go_enter Tryz.func9,Tryz.ntmps9;go_wp2_with fail;refine (HFT.out _).mono ?_;rintro e w1 ⟨⟨ok,rfl⟩,hb1⟩;have hx1:=(HB.out _).trans (hb1.mono (by rw [World.size_alloc];omega));have hbx:w1.heap[w.heap.size]?=some (.cells #[.int .i64 k,.int .i64 n,.float .f64 f,.bool is,.string t,.slice a1 m1 c1,.slice a2 m2 c2] 26 (0,0)):=by
  rw [hb1.block w.heap.size (by rw [World.size_alloc];omega)];exact heap_alloc_new w _
 have hlt1:w.heap.size < w1.heap.size:=Nat.lt_of_lt_of_le (by rw [World.size_alloc];omega) hb1.size
 cases ok with
 | false =>
  have HX:=Lib.hid hx1;clear hx1 hb1 hbx;go_wp2;go_ret;exact ⟨rfl,HX.out⟩
 | true =>
  by_cases hs31:style.length≤2147483647
  case neg =>
   have d1:decide ((2147483647:Int) < (style.length:Int))=true:=decide_eq_true (by omega);have HX:=Lib.hid hx1;clear hx1 hb1 hbx;go_wp2;go_ret;exact ⟨rfl,HX.out⟩
  have d1:decide ((2147483647:Int) < (style.length:Int))=false:=decide_eq_false (by omega);have b0:w1.cell? ⟨w.heap.size,0,none⟩=some (.int .i64 k):=blk_cell hbx 0;have b1:w1.cell? ⟨w.heap.size,1,none⟩=some (.int .i64 n):=blk_cell hbx 1;have b2:w1.cell? ⟨w.heap.size,2,none⟩=some (.float .f64 f):=blk_cell hbx 2;have b3:w1.cell? ⟨w.heap.size,3,none⟩=some (.bool is):=blk_cell hbx 3;have b4:w1.cell? ⟨w.heap.size,4,none⟩=some (.string t):=blk_cell hbx 4;have b5:w1.cell? ⟨w.heap.size,5,none⟩=some (.slice a1 m1 c1):=blk_cell hbx 5;have b6:w1.cell? ⟨w.heap.size,6,none⟩=some (.slice a2 m2 c2):=blk_cell hbx 6;have htree:=tree_c 6 (by decide) w1 _ (HR.out.below hx1);unfold ndC at htree;have HT:=Lib.hid htree;have HX1:=Lib.hid (aI hx1 (aI hbx hlt1));clear hx1 hb1 hbx hlt1 htree;go_wp2_with fail;refine HT.out.mono ?_;rintro e w2 ⟨⟨ok,rfl,hok⟩,hb2⟩;have hx2:=HX1.out.1.trans (hb2.mono HX1.out.1.size);have hbx2:=(hb2.block _ HX1.out.2.2).trans HX1.out.2.1;have htb2:=HS.out.2.mv hx2.mvL (fun h=>h);have hs2:=HS.out.1.mv hx2.mvL (fun h=>h);have hlt2:w.heap.size < w2.heap.size:=Nat.lt_of_lt_of_le HX1.out.2.2 hb2.size;have H2:=Lib.hid (aI hx2 (aI htb2 (aI hs2 (aI hbx2 hlt2))));clear hx2 htb2 hs2 hlt2 hb2 b0 b1 b2 b3 b4 b5 b6
  cases ok with
  | false =>
   clear hok hbx2;go_wp2_with fail;refine (awakeL H2.out.2.1).mono ?_;rintro e wz ⟨rfl,hbz⟩;have HZ:=Lib.hid (H2.out.1.trans (hbz.mono H2.out.1.size));clear hbz;go_wp2;go_ret;exact ⟨rfl,HZ.out⟩
  | true =>
   obtain ⟨j,hj,hjt⟩:=hok rfl;have p0:w2.cell? ⟨w.heap.size,0,none⟩=some (.int .i64 k):=blk_cell hbx2 0;have p1:w2.cell? ⟨w.heap.size,1,none⟩=some (.int .i64 n):=blk_cell hbx2 1;have p2:w2.cell? ⟨w.heap.size,2,none⟩=some (.float .f64 f):=blk_cell hbx2 2;have p3:w2.cell? ⟨w.heap.size,3,none⟩=some (.bool is):=blk_cell hbx2 3;have p4:w2.cell? ⟨w.heap.size,4,none⟩=some (.string t):=blk_cell hbx2 4;have p5:w2.cell? ⟨w.heap.size,5,none⟩=some (.slice a1 m1 c1):=blk_cell hbx2 5;have p6:w2.cell? ⟨w.heap.size,6,none⟩=some (.slice a2 m2 c2):=blk_cell hbx2 6;have HWR:=Lib.hid (writtenQ_all hj hjt H2.out.2.2.1);have HJ:=Lib.hid (aI hj hjt);clear hok hbx2 hj hjt;by_cases hs200:style.length≤200
   case neg =>
    have d2:decide ((200:Int) < (style.length:Int))=true:=decide_eq_true (by omega);go_wp2_with fail;refine (awakeL H2.out.2.1).mono ?_;rintro e wz ⟨rfl,hbz⟩;have HZ:=Lib.hid (H2.out.1.trans (hbz.mono H2.out.1.size));clear hbz;go_wp2;go_ret;exact ⟨rfl,HZ.out⟩
   have d2:decide ((200:Int) < (style.length:Int))=false:=decide_eq_false (by omega);go_wp2_with fail;refine HWR.out.mono ?_;rintro e w3 ⟨T,pv,ok,rfl,hTs,hb3,hTo⟩;have hx3:=H2.out.1.trans (hb3.mono H2.out.1.size);have H3:=Lib.hid (aI hx3 (aI (HS.out.2.mv hx3.mvL (fun h=>h)) (aI ((hb3.block _ H2.out.2.2.2.2).trans H2.out.2.2.2.1) (aI (Nat.lt_of_lt_of_le H2.out.2.2.2.2 hb3.size) (NdV.mv hb3.mvL (fun h=>h) j HJ.out.1)))));clear hx3 hb3 p0 p1 p2 p3 p4 p5 p6
   cases ok with
   | false =>
    clear hTo;go_wp2_with fail;refine (awakeL H3.out.2.1).mono ?_;rintro e wz ⟨rfl,hbz⟩;have HZ:=Lib.hid (H3.out.1.trans (hbz.mono H3.out.1.size));clear hbz;go_wp2;go_ret;exact ⟨rfl,HZ.out⟩
   | true =>
    obtain ⟨ks,l,rfl,T0,U,P,envF,hT,hs2,hg,hp,hpn,pa,pc,rfl,hpi⟩:=hTo rfl;have HCF:=Lib.hid (places_read H3.out.2.1 HJ.out.2 hT hs2 hg hp);have HP:=Lib.hid (aI hpi hpn);clear hT hs2 hg hp hTo hTs hpi hpn;go_wp2_with fail;refine HCF.out.mono ?_;rintro e w4 ⟨xs,xa,xc,rfl,hxs,hxw,hb4⟩;have hx4:=H3.out.1.trans (hb4.mono H3.out.1.size);have hlen:xs.length=P.length:=by
     have:=congrArg List.length (hxw.trans (wantO_tri U P).symm);simp only [List.length_map,wantO] at this;exact this
    have hsame:=same21 (c:=xc) (d:=pc) hxs (HP.out.1.below hb4) (hxw.trans (wantO_tri U P).symm) hlen HP.out.2;have H4:=Lib.hid (aI hx4 hsame);rw [hlen];clear hx4 hb4 hsame hxs hxw hlen;go_wp2_with fail;refine H4.out.2.mono ?_;rintro e w6 ⟨rfl,hb6⟩;have hx6:=H4.out.1.trans (hb6.mono H4.out.1.size);have H6:=Lib.hid (aI hx6 (HS.out.2.mv hx6.mvL (fun h=>h)));clear hx6 hb6;go_wp2_with fail;refine (awakeL H6.out.2).mono ?_;rintro e wz ⟨rfl,hbz⟩;have HZ:=Lib.hid (H6.out.1.trans (hbz.mono H6.out.1.size));clear hbz;go_wp2;go_ret;exact ⟨rfl,HZ.out⟩
end
end Go.Cf
namespace Go.Cf
open Go.ChangeShapes Go.WideShapes Go.ChangeAt Go.RowKit Go.Joins Go.Deep Go.Proofs
section
variable {H:Type} {enc:TypeId × Value→H} {P:Program} {w:World} {base:Nat} {spare:Nat→Bool} {held:Bool}
theorem open_row7 {fuel:Nat} {t:TypeId} {f0 f1 f2 f3 f4 f5 f6:Field} {cs:List Value} {x:DataW H × List MemPlace} (hs:P.underlying t=some (.struct #[f0,f1,f2,f3,f4,f5,f6])) (hone:oneCellFields P #[f0,f1,f2,f3,f4,f5,f6]=true) (hC:P.cellsOf t=7)
  (h:DataW.trod enc P w base spare held fuel t cs=some x) :
  ∃ (v0 v1 v2 v3 v4 v5 v6:Value) (y0 y1 y2 y3 y4 y5 y6:DataW H × List MemPlace) (n:Nat),cs=[v0,v1,v2,v3,v4,v5,v6] ∧
   DataW.trod enc P w base spare held n f0.type [v0]=some y0∧DataW.trod enc P w base spare held n f1.type [v1]=some y1∧DataW.trod enc P w base spare held n f2.type [v2]=some y2∧DataW.trod enc P w base spare held n f3.type [v3]=some y3∧DataW.trod enc P w base spare held n f4.type [v4]=some y4∧DataW.trod enc P w base spare held n f5.type [v5]=some y5∧DataW.trod enc P w base spare held n f6.type [v6]=some y6:=by
 obtain ⟨xs,n,_,hx,hl,hlen,hg⟩:=DataW.trod_struct hs h
 match cs,hl.trans hC with
 | [c0,c1,c2,c3,c4,c5,c6],_ =>
  obtain ⟨o0,k0⟩:=hone_of hone 0 f0 rfl;obtain ⟨o1,k1⟩:=hone_of hone 1 f1 rfl;obtain ⟨o2,k2⟩:=hone_of hone 2 f2 rfl;obtain ⟨o3,k3⟩:=hone_of hone 3 f3 rfl;obtain ⟨o4,k4⟩:=hone_of hone 4 f4 rfl;obtain ⟨o5,k5⟩:=hone_of hone 5 f5 rfl;obtain ⟨o6,k6⟩:=hone_of hone 6 f6 rfl
  match xs,hlen with
  | [y0,y1,y2,y3,y4,y5,y6],_ =>
   exact ⟨c0,c1,c2,c3,c4,c5,c6,y0,y1,y2,y3,y4,y5,y6,n,rfl,by simpa [o0,k0] using hg 0 f0 rfl,by simpa [o1,k1] using hg 1 f1 rfl,by simpa [o2,k2] using hg 2 f2 rfl,by simpa [o3,k3] using hg 3 f3 rfl,by simpa [o4,k4] using hg 4 f4 rfl,by simpa [o5,k5] using hg 5 f5 rfl,by simpa [o6,k6] using hg 6 f6 rfl⟩
theorem trod_fl {t:TypeId} {k:FloatKind} {fuel:Nat} {cs:List Value} {x:DataW H × List MemPlace} (ht:P.underlying t=some (.float k)) (h:DataW.trod enc P w base spare held fuel t cs=some x):∃ n,cs=[.float k n]:=by
 cases fuel with
 | zero=>simp [DataW.trod] at h
 | succ n =>
  unfold DataW.trod at h;rw [ht] at h
  split at h <;> simp_all
theorem keys_of {t e:TypeId} {fuel:Nat} {cs:List Value} {x:DataW H × List MemPlace} (ht:P.underlying t=some (.slice e)) (he:P.underlying e=some .string) (hc:P.cellsOf e=1) (h:DataW.trod enc P w base (fun _=>true) held fuel t cs=some x) :
  ∃ a len cap,cs=[.slice a len cap]∧len≤maxLen∧KeysIn w a len:=by
 rcases open_strs ht he hc h with ⟨rfl,_⟩ | ⟨a,len,cap,m,Sx,rfl,hb,hl,hm,hmm,_,hS⟩
 ·exact ⟨none,0,0,rfl,Nat.zero_le _,.inl rfl⟩
 ·refine ⟨some a,len,cap,rfl,Nat.le_trans hl hm,.inr ⟨a,rfl,fun i hi=>⟨Sx i,hS i ?_⟩⟩⟩;rw [hmm,if_pos rfl];omega
theorem style_of {t e:TypeId} {fuel:Nat} {cs:List Value} {x:DataW H × List MemPlace} (ht:P.underlying t=some (.slice e)) (he:P.underlying e=some (.int .u8)) (hc:P.cellsOf e=1) (h:DataW.trod enc P w base (fun _=>true) held fuel t cs=some x) :
  ∃ (a:Option Addr) (c:Nat) (style:List UInt8),cs=[.slice a style.length c]∧style.length≤maxLen∧Sty L0 w (.slice a style.length c) style:=by
 rcases open_ints ht he hc h with ⟨rfl,_⟩ | ⟨a,len,cap,zs,rfl,hb,hl,hm,hz,_,hS,hwf⟩
 ·exact ⟨none,0,[],rfl,Nat.zero_le _,none,0,rfl,Nat.le_refl _,Nat.zero_le _,fun h=>absurd rfl h⟩
 ·rw [if_pos rfl] at hz;have hlen:((zs.take len).map fun z=>UInt8.ofNat z.toNat).length=len:=by rw [List.length_map,List.length_take];omega
  refine ⟨some a,cap,(zs.take len).map fun z=>UInt8.ofNat z.toNat,by rw [hlen],by rw [hlen];omega,some a,cap,rfl,by rw [hlen];exact hl,hm,fun _=>⟨a,rfl,rfl,fun i y hy=>?_⟩⟩;rw [List.getElem?_map,Option.map_eq_some_iff] at hy;obtain ⟨z,hz1,rfl⟩:=hy;have hil:i < len:=by
   have:=(List.getElem?_eq_some_iff.1 hz1).1;rw [List.length_take] at this;omega
  rw [List.getElem?_take_of_lt hil] at hz1;have hw:=hwf z (List.mem_of_getElem? hz1);have hr:0≤z∧z≤255:=by simpa [Lit.wf,IntKind.min,IntKind.max,IntKind.signed,IntKind.bits] using hw
  rw [hS i (by omega),List.getD_eq_getElem?_getD,hz1];simp only [Option.getD_some,Option.some.injEq,Value.int.injEq,true_and];rw [UInt8.toNat_ofNat_of_lt' (by show z.toNat < 256;omega)];omega
end
theorem cells9':Tryz.prog.cellsOf 9=1:=by kernel_rfl
theorem cells26':Tryz.prog.cellsOf 26=7:=by kernel_rfl
theorem addr_add2 (a:Addr) (i j:Nat):(a.add i).add j=a.add (i + j):=by
 unfold Addr.add;by_cases hj:j=0
 ·subst hj;simp
 ·by_cases hi:i=0
  ·subst hi;simp
  ·simp [hi,hj];omega
section
variable {H:Type} {enc:TypeId × Value→H} {w:World} {base:Nat} {held:Bool}
theorem ndr_of:∀ (d fuel:Nat) {cs:List Value} {x:DataW H × List MemPlace},DataW.trod enc Tryz.prog w base (fun _=>true) held fuel 26 cs=some x→NdR w d cs.toArray:=by
 intro d
 induction d with
 | zero =>
  intro fuel cs x h;obtain ⟨c0,c1,c2,c3,c4,c5,c6,y0,y1,y2,y3,y4,y5,y6,n,rfl,t0,t1,t2,t3,t4,t5,t6⟩:=open_row7 Tryz.underlying26 (by kernel_rfl) cells26' h;obtain ⟨k,e0,-,-⟩:=DataW.trod_int Tryz.underlying3 t0;obtain ⟨m,e1,-,w1⟩:=DataW.trod_int Tryz.underlying2 t1;obtain ⟨f,e2⟩:=trod_fl Tryz.underlying22 t2;obtain ⟨b,e3,-⟩:=DataW.trod_bool Tryz.underlying4 t3;obtain ⟨s,e4,-,ws⟩:=DataW.trod_string Tryz.underlying9 t4;obtain ⟨a1,m1,k1,e5,wm,hk⟩:=keys_of Tryz.underlying23 Tryz.underlying9 cells9' t5;have h6:=open_slice Tryz.underlying24 t6;simp only [List.cons.injEq,and_true] at e0 e1 e2 e3 e4 e5;subst e0 e1 e2 e3 e4 e5;have u1:-9223372036854775808≤m∧m≤9223372036854775807:=by simpa [Lit.wf,IntKind.min,IntKind.max,IntKind.signed,IntKind.bits] using w1
  unfold NdR;rcases h6 with ⟨e6,_⟩ | ⟨a2,m2,k2,mm,n2,D,Pl,e6,hb,hl,hm,hmm,_,hel⟩
  ·simp only [List.cons.injEq,and_true] at e6;subst e6;exact ⟨k,m,f,b,s,a1,m1,k1,none,0,0,rfl,u1.1,u1.2,ws,wm,Nat.zero_le _,hk,trivial⟩
  ·simp only [List.cons.injEq,and_true] at e6;subst e6;exact ⟨k,m,f,b,s,a1,m1,k1,some a2,m2,k2,rfl,u1.1,u1.2,ws,wm,Nat.le_trans hl hm,hk,trivial⟩
 | succ d ih =>
  intro fuel cs x h;obtain ⟨c0,c1,c2,c3,c4,c5,c6,y0,y1,y2,y3,y4,y5,y6,n,rfl,t0,t1,t2,t3,t4,t5,t6⟩:=open_row7 Tryz.underlying26 (by kernel_rfl) cells26' h;obtain ⟨k,e0,-,-⟩:=DataW.trod_int Tryz.underlying3 t0;obtain ⟨m,e1,-,w1⟩:=DataW.trod_int Tryz.underlying2 t1;obtain ⟨f,e2⟩:=trod_fl Tryz.underlying22 t2;obtain ⟨b,e3,-⟩:=DataW.trod_bool Tryz.underlying4 t3;obtain ⟨s,e4,-,ws⟩:=DataW.trod_string Tryz.underlying9 t4;obtain ⟨a1,m1,k1,e5,wm,hk⟩:=keys_of Tryz.underlying23 Tryz.underlying9 cells9' t5;have h6:=open_slice Tryz.underlying24 t6;simp only [List.cons.injEq,and_true] at e0 e1 e2 e3 e4 e5;subst e0 e1 e2 e3 e4 e5;have u1:-9223372036854775808≤m∧m≤9223372036854775807:=by simpa [Lit.wf,IntKind.min,IntKind.max,IntKind.signed,IntKind.bits] using w1
  unfold NdR;rcases h6 with ⟨e6,_⟩ | ⟨a2,m2,k2,mm,n2,D,Pl,e6,hb,hl,hm,hmm,_,hel⟩
  ·simp only [List.cons.injEq,and_true] at e6;subst e6;exact ⟨k,m,f,b,s,a1,m1,k1,none,0,0,rfl,u1.1,u1.2,ws,wm,Nat.zero_le _,hk,fun i hi=>absurd hi (Nat.not_lt_zero _)⟩
  ·simp only [List.cons.injEq,and_true] at e6;subst e6;refine ⟨k,m,f,b,s,a1,m1,k1,some a2,m2,k2,rfl,u1.1,u1.2,ws,wm,Nat.le_trans hl hm,hk,fun i hi=>?_⟩;obtain ⟨cs',h1,h2⟩:=hel i (by rw [hmm,if_pos rfl];omega);rw [cells26'] at h1;obtain ⟨g0,g1,g2⟩:=World.cells?_some h1;refine ⟨a2,cs'.toArray,rfl,fun j hj=>?_,ih _ h2⟩;rw [← addr_add2,g2 j hj,List.getElem?_toArray]
end
end Go.Cf
