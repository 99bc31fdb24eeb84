/-
  Texts joined: Pn Po Pr Ps Pt Qa.
-/
import Derived.Test.YtackodbeohaidaaGreatDoorZq04
import Derived.Test.YtackodbeohaidaaGreatDoorZq012
import Derived.Test.YtackodbeohaidaaGreatDoorZq016
import Derived.Test.YtackodbeohaidaaGreatDoorZq018
import Derived.Stop.Asserts
namespace Go.Cf
open Go.RowKit Go.Conc Go.Proofs Go.Maps Go.Sort
theorem pa_113 (u:Value) (w:World):(Instr.typeAssert (.iface 113 u) 20 82 true).run Tryz.prog w=.ok (.tuple #[.iface 113 u,.bool true]) w:=by kernel_rfl
theorem pa_61 (u:Value) (w:World):(Instr.typeAssert (.iface 61 u) 20 82 true).run Tryz.prog w=.ok (.tuple #[.nilIface,.bool false]) w:=run_typeAssert_lacksB Tryz.underlying82 (by kernel_rfl) (by kernel_rfl) u 20 w
theorem pa_2 (u:Value) (w:World):(Instr.typeAssert (.iface 2 u) 20 82 true).run Tryz.prog w=.ok (.tuple #[.nilIface,.bool false]) w:=run_typeAssert_lacksB Tryz.underlying82 (by kernel_rfl) (by kernel_rfl) u 20 w
theorem pa_22 (u:Value) (w:World):(Instr.typeAssert (.iface 22 u) 20 82 true).run Tryz.prog w=.ok (.tuple #[.nilIface,.bool false]) w:=run_typeAssert_lacksB Tryz.underlying82 (by kernel_rfl) (by kernel_rfl) u 20 w
theorem pa_4 (u:Value) (w:World):(Instr.typeAssert (.iface 4 u) 20 82 true).run Tryz.prog w=.ok (.tuple #[.nilIface,.bool false]) w:=run_typeAssert_lacksB Tryz.underlying82 (by kernel_rfl) (by kernel_rfl) u 20 w
theorem pa_9 (u:Value) (w:World):(Instr.typeAssert (.iface 9 u) 20 82 true).run Tryz.prog w=.ok (.tuple #[.nilIface,.bool false]) w:=run_typeAssert_lacksB Tryz.underlying82 (by kernel_rfl) (by kernel_rfl) u 20 w
theorem pa_75 (u:Value) (w:World):(Instr.typeAssert (.iface 75 u) 20 82 true).run Tryz.prog w=.ok (.tuple #[.nilIface,.bool false]) w:=run_typeAssert_lacksB Tryz.underlying82 (by kernel_rfl) (by kernel_rfl) u 20 w
theorem pm_61 (u:Value) (w:World):(Instr.typeAssert (.iface 61 u) 20 61 true).run Tryz.prog w=.ok (.tuple #[u,.bool true]) w:=by kernel_rfl
theorem pm_2 (u:Value) (w:World):(Instr.typeAssert (.iface 2 u) 20 61 true).run Tryz.prog w=.ok (.tuple #[.map none,.bool false]) w:=by kernel_rfl
theorem pm_22 (u:Value) (w:World):(Instr.typeAssert (.iface 22 u) 20 61 true).run Tryz.prog w=.ok (.tuple #[.map none,.bool false]) w:=by kernel_rfl
theorem pm_4 (u:Value) (w:World):(Instr.typeAssert (.iface 4 u) 20 61 true).run Tryz.prog w=.ok (.tuple #[.map none,.bool false]) w:=by kernel_rfl
theorem pm_9 (u:Value) (w:World):(Instr.typeAssert (.iface 9 u) 20 61 true).run Tryz.prog w=.ok (.tuple #[.map none,.bool false]) w:=by kernel_rfl
theorem pm_75 (u:Value) (w:World):(Instr.typeAssert (.iface 75 u) 20 61 true).run Tryz.prog w=.ok (.tuple #[.map none,.bool false]) w:=by kernel_rfl
attribute [local go_sem ↓] pa_113 pa_61 pa_2 pa_22 pa_4 pa_9 pa_75 pm_61 pm_2 pm_22 pm_4 pm_9 pm_75
theorem mt_Value (b:Nat) (w:World):(method 355 113 (.pointer (some ⟨b,0,none⟩)) "Value").run Tryz.prog w=.ok (73,.pointer (some ⟨b,0,none⟩)) w:=by kernel_rfl
theorem mt_Line (b:Nat) (w:World):(method 355 113 (.pointer (some ⟨b,0,none⟩)) "Line").run Tryz.prog w=.ok (238,.pointer (some ⟨b,0,none⟩)) w:=by kernel_rfl
theorem mt_Position (b:Nat) (w:World):(method 355 113 (.pointer (some ⟨b,0,none⟩)) "Position").run Tryz.prog w=.ok (239,.pointer (some ⟨b,0,none⟩)) w:=by kernel_rfl
theorem mt_Used (b:Nat) (w:World):(method 355 113 (.pointer (some ⟨b,0,none⟩)) "IsUsedVariable").run Tryz.prog w=.ok (237,.pointer (some ⟨b,0,none⟩)) w:=by kernel_rfl
attribute [local go_sem ↓] mt_Value mt_Line mt_Position mt_Used
attribute [local go_sem ↓] appX_eq
section
variable {B ℓ ℓ2 τ:Nat} {lab lab1:Lab} {w w1:World}
set_option maxRecDepth 100000 in
set_option maxHeartbeats 1000000 in
theorem tokLine_c {g ℓ:Nat} {c0 c1:Value} {c3:Int} {u:Value} {f:Int × Bool} (h:Cl ℓ lab w g (tkC c0 c1 c3 u f) 115):Calls Tryz.prog 238 #[.pointer (some ⟨g,0,none⟩)] w fun e w'=>e=.returned (i64 f.1)∧w'=w:=by
 have c4:w.cell? ⟨g,2,none⟩=some (i64 f.1):=h.cell 2;clear h;go_enter Tryz.func238,Tryz.ntmps238;go_wp2;go_ret;exact ⟨rfl,rfl⟩
set_option maxRecDepth 100000 in
set_option maxHeartbeats 1000000 in
theorem tokPos_c {g ℓ:Nat} {c0 c1:Value} {c3:Int} {u:Value} {f:Int × Bool} (h:Cl ℓ lab w g (tkC c0 c1 c3 u f) 115):Calls Tryz.prog 239 #[.pointer (some ⟨g,0,none⟩)] w fun e w'=>e=.returned (i64 c3)∧w'=w:=by
 have c4:w.cell? ⟨g,3,none⟩=some (i64 c3):=h.cell 3;clear h;go_enter Tryz.func239,Tryz.ntmps239;go_wp2;go_ret;exact ⟨rfl,rfl⟩
set_option maxRecDepth 100000 in
set_option maxHeartbeats 1000000 in
theorem tokUsed_c {g ℓ:Nat} {c0 c1:Value} {c3:Int} {u:Value} {f:Int × Bool} (h:Cl ℓ lab w g (tkC c0 c1 c3 u f) 115):Calls Tryz.prog 237 #[.pointer (some ⟨g,0,none⟩)] w fun e w'=>e=.returned (.bool f.2)∧w'=w:=by
 have c4:w.cell? ⟨g,5,none⟩=some (.bool f.2):=h.cell 5;clear h;go_enter Tryz.func237,Tryz.ntmps237;go_wp2;go_ret;exact ⟨rfl,rfl⟩
def PlaRes (lab:Lab) (w:World) (want:List (ByteArray × Int × Bool)) (e:Ending) (w':World):Prop :=
 ∃ v out lab',e=.returned v∧Rw w.heap.size 50 lab' w' 60 4 v out.length (flatO out)∧out.map triO=want∧Mv (fun _=>False) w lab w' lab'
def Hold (lab:Lab) (w:World) (j:TV) (v:Value):Prop:=isV lab w j v ∨ ∃ f,Tok 6 lab w (f,j) v
def PlaC (d:Nat):Prop:=∀ (j:TV) (lab:Lab) (w:World) (path:ByteArray) (v:Value),TVb d j→path.size + 21 * d≤1000→Hold lab w j v→Calls Tryz.prog 33 #[.string path,v] w (PlaRes lab w (plT path j))
theorem Rw.noneB (B ℓ:Nat) (lab:Lab) (w:World) (e size:Nat):Rw B ℓ lab w e size (.slice Option.none 0 0) 0 []:=⟨World.ownsRow_nil _ _ _ _,fun k hk=>by cases hk⟩
set_option maxRecDepth 100000 in
set_option maxHeartbeats 4000000 in
theorem pla_leaf {path:ByteArray} {v:Value} (h:Hold lab w .leaf v):Calls Tryz.prog 33 #[.string path,v] w (PlaRes lab w (plT path .leaf)):=by
 have HR:=Lib.hid (show PlaRes lab w (plT path .leaf) (.returned (.slice none 0 0)) w from ⟨_,[],lab,rfl,Rw.noneB _ _ _ _ _ _,by simp [plT],Mv.refl _ _ _⟩);rcases h with h | ⟨f,b,c0,c1,c3,u,rfl,hc,hu⟩
 ·simp only [isV] at h;obtain ⟨t,u,rfl,ht⟩:=h;rcases ht with rfl | rfl | rfl | rfl | rfl
  all_goals
   go_enter Tryz.func33,Tryz.ntmps33;go_wp2;go_ret;exact HR.out
 ·have HT:=Lib.hid (tokVal_c hc);simp only [isV] at hu;obtain ⟨t,u',rfl,ht⟩:=hu;clear hc;go_enter Tryz.func33,Tryz.ntmps33;go_wp2_with fail;refine HT.out.mono ?_;rintro e w' ⟨rfl,hw'⟩;have hw2:=hw'.symm;clear hw';subst hw2;rcases ht with rfl | rfl | rfl | rfl | rfl
  all_goals
   go_wp2;go_ret;exact HR.out
theorem isTs.get:∀ {fs:List (Int × Bool)} {l:List TV} {xs:List Value} {k:Nat} {j:TV},isTs lab w fs l xs→l[k]?=some j→∃ f x,fs[k]?=some f∧xs[k]?=some x∧Tok 6 lab w (f,j) x
 | f :: fs,j0 :: l,x :: xs,0,j,h,e=>by
  simp only [List.getElem?_cons_zero,Option.some.injEq] at e;subst e;simp only [isTs] at h;exact ⟨f,x,rfl,rfl,h.1⟩
 | f :: fs,j0 :: l,x :: xs,k + 1,j,h,e=>by
  simp only [isTs] at h;exact isTs.get (k:=k) h.2 (by simpa using e)
 | [],[],_,_,_,_,e=>by simp at e
 | [],_ :: _,_,_,_,h,_=>by simp [isTs] at h
 | _ :: _,[],_,_,_,h,_=>by simp [isTs] at h
 | _ :: _,_ :: _,[],_,_,h,_=>by simp [isTs] at h
structure PlI (lab:Lab) (w:World) (path:ByteArray) (ks:List ByteArray) (fs:List (Int × Bool)) (l:List TV) (kv:Value) (k:Nat) (ov:Value) (out:List PE) (labr:Lab) (wr:World):Prop where
 row:Rw w.heap.size 50 labr wr 60 4 ov out.length (flatO out)
 tri:out.map triO=plL path (ks.take k) (fs.take k) (l.take k)
 keys:Rw w.heap.size 51 labr wr 9 1 kv ks.length (ks.map .string)
 below:Below w.heap.size w wr
 lab:∀ x,x < w.heap.size→labr x=lab x
theorem PlI.mv {path:ByteArray} {ks:List ByteArray} {fs:List (Int × Bool)} {l:List TV} {kv ov:Value} {k:Nat} {out:List PE} {labr:Lab} {wr:World} (h:PlI lab w path ks fs l kv k ov out labr wr):Mv (fun _=>False) w lab wr labr :=
 ⟨h.below.os,h.below.tape,h.below.output,h.below.size,fun x hx _=>h.below.block x hx,fun x hx _=>h.lab x hx⟩
set_option maxRecDepth 100000 in
set_option maxHeartbeats 8000000 in
theorem pla_map {d:Nat} (ih:PlaC d) (hd:plB d≤40000) {ks:List ByteArray} {fs:List (Int × Bool)} {l:List TV} {path:ByteArray} {v:Value} (hb:TVb (d + 1) (.map ks fs l)) (hp:path.size + 21 * (d + 1)≤1000) (h:Hold lab w (.map ks fs l) v) :
  Calls Tryz.prog 33 #[.string path,v] w (PlaRes lab w (plT path (.map ks fs l))):=by
 obtain ⟨b,t,p,ok,hta,hcase,hmp,hks,hts⟩:∃ b t p ok,(∀ W,(Instr.typeAssert v 20 82 true).run Tryz.prog W=.ok (.tuple #[p,.bool ok]) W) ∧
   ((ok=false∧v=.iface 61 (.map (some b))) ∨ (ok=true∧∃ g,p=.iface 113 (.pointer (some ⟨g,0,none⟩))∧Calls Tryz.prog 73 #[.pointer (some ⟨g,0,none⟩)] w fun e w'=>e=.returned (.iface 61 (.map (some b)))∧w'=w)) ∧
   MpV 6 lab w b t∧t.map (·.1)=ks∧isTs lab w fs l (t.map (·.2)):=by
  rcases h with h | ⟨f,g,c0,c1,c3,u,rfl,hc,hu⟩
  ·simp only [isV] at h;obtain ⟨b,t,rfl,h1,h2,h3⟩:=h;exact ⟨b,t,_,false,fun W=>pa_61 _ W,.inl ⟨rfl,rfl⟩,h1,h2,h3⟩
  ·simp only [isV] at hu;obtain ⟨b,t,rfl,h1,h2,h3⟩:=hu;exact ⟨b,t,_,true,fun W=>pa_113 _ W,.inr ⟨rfl,g,rfl,tokVal_c hc⟩,h1,h2,h3⟩
 simp only [TVb] at hb;obtain ⟨hk8,hfl,hll,hk20,hlb⟩:=hb;have hown:=hmp.1;obtain ⟨D,hD⟩:∃ D,D=entD (t.map fun x=>((x.1,.tr true,x.2):Ent)):=⟨_,rfl⟩;obtain ⟨n,hn⟩:∃ n,n=(t.map fun x=>((x.1,.tr true,x.2):Ent)).length:=⟨_,rfl⟩;have hsize:Maps.size D=t.length:=by rw [hD];simp [Maps.size,entD]
 have htl:t.length=ks.length:=by rw [← hks];simp
 rw [← hD,← hn] at hown;have HD:=Lib.hid hD;have HN:=Lib.hid hn;have HS:=Lib.hid (aI hsize (aI htl (aI hfl hll)));have HM:=Lib.hid (aI hmp (aI hks hts));have HB:=Lib.hid (aI hk20 hlb);have HIH:=Lib.hid ih;have HPL:=Lib.hid hd;have HP:=Lib.hid hp;have hp1:path.size≤1000:=by omega
 clear hD hn hsize htl hmp hks hts hk20 hlb ih hd h hfl hll hp;go_enter Tryz.func33,Tryz.ntmps33;go_upto_if 21 with fail
 go_cut [1] from 22 to 24 (fun s wx=>s=.iface 61 (.map (some b))∧wx=w)
 case first =>
  rcases hcase with ⟨rfl,rfl⟩ | ⟨rfl,g,rfl,hc⟩
  ·go_wp2;go_meet
   case rel=>exact ⟨rfl,rfl⟩
  ·go_wp2_with fail
   refine hc.mono ?_;rintro e w' ⟨rfl,hw'⟩;have hw2:=hw'.symm;clear hw';subst hw2;go_wp2;go_meet
   case rel=>exact ⟨rfl,rfl⟩
 case rest =>
  obtain ⟨rfl,hwc⟩:=hcut;have hwc':=hwc.symm;clear hwc;subst hwc';clear hcase hta;go_wp2_with (at_range;refine wpList_range_own _ rfl _ 61 rfl 9 20 (Maps.string_keyed Tryz.underlying9) Tryz.underlying61 anyR b n D rfl hown ?_;intro w0 hrg0 hg0 hs0);have hb0:Below w.heap.size w w0:=(Below.refl _ _).grown hg0 (Nat.le_refl _) (fun j hj=>by simp at hj);have HG0:=Lib.hid (aI hrg0 hb0);clear hg0 hs0 hown hrg0 hb0;go_frame;have hD8:Maps.size D≤8:=by have:=HS.out;omega
  go_loopw [10] (fun kv wr=>∃ (left:Lit→Bool) (cnt:Nat) (ss:List (List UInt8)),wr.ranges Tryz.prog 9 anyR b w.heap.size n D left cnt∧ss.length + cnt≤Maps.size D∧wr.ownsRow w.heap.size 9 1 kv ss.length (ss.map encStr)∧Collected D left ss∧Below w.heap.size w wr) (fun _ wr=>wr.rangeLeft b w.heap.size)
  case atStart=>exact ⟨_,_,[],HG0.out.1,by simp,World.ownsRow_nil _ _ _ _,Collected.start D,HG0.out.2⟩
  case round =>
   obtain ⟨left,cnt,ss,hrg,hcs,hrow,hC,hnx⟩:=hrel;go_wp2_with (at_next;go_loud (refine wpList_next_ranges _ rfl _ rfl 9 (Maps.string_keyed Tryz.underlying9) anyR encStr (fun v=>v) (fun key kl hk=>by obtain ⟨x,hx,_⟩:=Maps.keyOf_str Tryz.underlying9 hk;exact ⟨x,hx⟩) (fun v y hv=>⟨v,rfl⟩) b w.heap.size n _ _ _ (by simp [Act.eval]) hrg ?_ ?_))
   ·intro _ hleft;obtain ⟨hsort,hlen⟩:=sorted_keys HM.out.1 (HD.out ▸ hC) hleft;have hkl:ss.length=ks.length:=by have:=HS.out;rw [hlen];simp;omega
    have hss:ss.length≤1000000:=by omega
    clear hC hleft hrg hcs HG0 hlen hD8;go_wp2_with fail;refine (sort_c hrow hss).mono ?_;rintro e w3 ⟨rfl,hrow3,hg3⟩;have e3:((t.map fun x=>((x.1,.tr true,x.2):Ent)).map (·.1)).map Value.string=ks.map .string:=by rw [← HM.out.2.1,List.map_map,List.map_map,List.map_map];rfl
    rw [hsort,hkl,e3] at hrow3;have hrow4:=hrow3;have hb3:Below w.heap.size w w3:=hnx.grown hg3 hnx.size (fun x hx=>(hrow.lt x hx).1);obtain ⟨ka,kcap,hkv⟩:=own_slice hrow4;subst hkv;have HI0:PlI lab w path ks fs l (.slice ka ks.length kcap) 0 (.slice none 0 0) [] (lab.ext w.heap.size 51) w3 :=
     ⟨Rw.noneB _ _ _ _ _ _,by simp [plL],⟨hrow4,fun x hx=>Lab.ext_ge (hrow4.lt x hx).1⟩,hb3,fun x hx=>Lab.ext_lt hx⟩
    have HI:=Lib.hid HI0;clear e3 hrow hrow3 hrow4 hb3 hg3 hnx HI0 hsort hkl hss;go_wp2_with fail;go_loopw [12,5] (fun i ov wr=>∃ (k:Nat) (out:List PE) (labr:Lab),i=.int .i64 k∧k≤ks.length∧PlI lab w path ks fs l (.slice ka ks.length kcap) k ov out labr wr) (fun i _ _=>ks.length - (RowKit.intOf i).toNat)
    case atStart=>exact ⟨0,[],_,rfl,Nat.zero_le _,HI.out⟩
    case round =>
     obtain ⟨k,out,labr,rfl,hk,hI⟩:=hrel;have hk0:(0:Int)≤(k:Int):=Int.natCast_nonneg _;obtain ⟨-,-,hfl,hll⟩:=HS.out;by_cases hlt:k < ks.length
     ·have hk1:(k:Int) < (ks.length:Int):=by omega
      have htl:=HS.out.2.1;obtain ⟨x,hx⟩:∃ x,t[k]?=some x:=⟨_,List.getElem?_eq_getElem (by omega)⟩;have hkk:ks[k]?=some x.1:=by rw [← HM.out.2.1,List.getElem?_map,hx];rfl
      obtain ⟨j,hj⟩:∃ j,l[k]?=some j:=⟨_,List.getElem?_eq_getElem (by omega)⟩;obtain ⟨f,tv,hf,htv,htok⟩:=HM.out.2.2.get hj;have htv':tv=x.2:=by rw [List.getElem?_map,hx] at htv;exact (Option.some.inj htv).symm
      subst htv';have hmv:=hI.mv;obtain ⟨g,c0,c1,c3,u,hxg,hc,hu⟩:=htok.mv hmv (fun h=>h) (fun h=>h);have hmpr:=HM.out.1.mv hmv (fun h=>h);have hxm:(t.map fun x=>((x.1,.tr true,x.2):Ent))[k]?=some (x.1,.tr true,x.2):=by rw [List.getElem?_map,hx];rfl
      have hlook:=map_look hmpr k _ hxm;have hk20:=HB.out.1 x.1 (List.mem_of_getElem? hkk);have hjb:=HB.out.2 j (List.mem_of_getElem? hj);have hout:out.length≤320008:=by
       have h1:=congrArg List.length hI.tri;rw [List.length_map] at h1;have h2:=plL_len (l.take k) d path (ks.take k) (fs.take k) fun y hy=>HB.out.2 y (List.mem_of_mem_take hy)
       have h3:(ks.take k).length≤8:=by rw [List.length_take];omega
       have h4:=Nat.mul_le_mul h3 (show plB d + 1≤40001 by have:=HPL.out;omega);omega
      obtain ⟨kg,hkg,_,hkc,_⟩:=rw_at (i:=k) (y:=.string x.1) hI.keys (by rw [List.getElem?_map,hkk];rfl);subst hkg;obtain ⟨pe,hpe⟩:∃ pe:PE,pe=(path ++ ⟨#[47]⟩ ++ x.1,f.1,c3,f.2):=⟨_,rfl⟩;have m1:=Mv.alloc (M:=fun _=>False) wr labr (.cells #[.string (path ++ ⟨#[47]⟩ ++ x.1),i64 f.1,i64 c3,.bool f.2] 60) 52;have hnew:Rw wr.heap.size 52 (labr.ext wr.heap.size 52) (wr.alloc (.cells #[.string (path ++ ⟨#[47]⟩ ++ x.1),i64 f.1,i64 c3,.bool f.2] 60)) 60 4 (.slice (some ⟨wr.heap.size,0,none⟩) [pe].length 1) [pe].length (flatO [pe]):=by
       refine ⟨⟨by rw [hpe];rfl,.inr ⟨_,_,_,rfl,Nat.le_refl _,heap_alloc_new wr _,Nat.le_refl _,by unfold maxLen;omega,rfl,by rw [hpe];rfl⟩⟩,fun y hy=>?_⟩;simp only [Value.ownBlock,Option.some.injEq] at hy;subst hy;exact Lab.ext_ge (Nat.le_refl _)
      obtain ⟨v2,w2,hrun,hr2,hg2⟩:=app_pl (xs:=out) (ys:=[pe]) (Nat.le_trans hI.below.size m1.size) (hI.row.mv m1 (fun h=>h)) hnew (by simp;omega);have hrun1:(AppX #[31,31] 31 #[u5,.slice (some ⟨wr.heap.size,0,none⟩) 1 1]).run Tryz.prog (wr.alloc (.cells #[.string (path ++ ⟨#[47]⟩ ++ x.1),i64 f.1,i64 c3,.bool f.2] 60))=.ok v2 w2:=hrun;have hb1:=hI.below.alloc hI.below.size (.cells #[.string (path ++ ⟨#[47]⟩ ++ x.1),i64 f.1,i64 c3,.bool f.2] 60);have hrow1:=hI.row.mv m1 (fun h=>h);have hb2:=hb1.grown hg2 hb1.size (fun y hy=>(hrow1.1.lt y hy).1);have m2:=Mv.grown (M:=(·=50)) hg2 (labr.ext wr.heap.size 52) 50 (fun y hy=>hrow1.2 y hy);have M12:=(m1.mono (M':=fun y=>y=50) (fun _ h=>h.elim)).trans m2 (fun _ h=>h);have hlab2:∀ y,y < w.heap.size→((labr.ext wr.heap.size 52).ext (wr.alloc (.cells #[.string (path ++ ⟨#[47]⟩ ++ x.1),i64 f.1,i64 c3,.bool f.2] 60)).heap.size 50) y=lab y:=fun y hy=>by
       have h1:=hI.below.size;rw [Lab.ext_lt (by rw [World.size_alloc];omega),Lab.ext_lt (by omega)];exact hI.lab y hy
      obtain ⟨lab2,hl2⟩:∃ y,y=(labr.ext wr.heap.size 52).ext (wr.alloc (.cells #[.string (path ++ ⟨#[47]⟩ ++ x.1),i64 f.1,i64 c3,.bool f.2] 60)).heap.size 50:=⟨_,rfl⟩;rw [← hl2] at M12 hr2 hlab2;have hlook2:=map_look (hmpr.mv M12 (by decide)) k _ hxm;have hkeys2:=hI.keys.mv M12 (by decide);obtain ⟨kg',hkg',_,hkc2,_⟩:=rw_at (i:=k) (y:=.string x.1) hkeys2 (by rw [List.getElem?_map,hkk];rfl)
      cases hkg'
      simp only at hlook hlook2;rw [hxg] at hlook hlook2;have hHold:Hold lab2 w2 j (.iface 113 (.pointer (some ⟨g,0,none⟩))):=.inr ⟨f,g,c0,c1,c3,u,rfl,hc.mv M12 (by decide),isV.mv M12 (by decide) _ _ hu⟩;have hzz:(path ++ ⟨#[47]⟩ ++ x.1).size=path.size + 1 + x.1.size:=by rw [bsa,bsa];rfl
      have HC:=Lib.hid (HIH.out j lab2 w2 (path ++ ⟨#[47]⟩ ++ x.1) _ hjb (by have:=HP.out;omega) hHold);have HT1:=Lib.hid (tokLine_c hc);have HT2:=Lib.hid (tokPos_c hc);have HT3:=Lib.hid (tokUsed_c hc);have HALL:=Lib.hid (aI hI.tri (aI hb2 (aI hlab2 (aI hkeys2 (aI hr2 (aI hkk (aI hf (aI hj (aI hjb (aI hpe hout))))))))));have hnb1:¬ 9223372036854775807 < path.size + 1:=by omega
      have hnb2:¬ 9223372036854775807 < path.size + 1 + x.1.size:=by omega
      clear hI hfl hll htl hx hkk hj hf htv htok hmv hc hu hmpr hxm hk20 hjb hout hpe m1 hnew hr2 hg2 hrun hb1 hrow1 hb2 m2 M12 hlab2 hl2 hkeys2 hHold hzz;go_wp2_with fail;refine HT1.out.mono ?_;rintro e w' ⟨rfl,hw'⟩;have hw2:=hw'.symm;clear hw';subst hw2;go_wp2_with fail;refine HT2.out.mono ?_;rintro e w' ⟨rfl,hw'⟩;have hw2:=hw'.symm;clear hw';subst hw2;go_wp2_with fail;refine HT3.out.mono ?_;rintro e w' ⟨rfl,hw'⟩;have hw2:=hw'.symm;clear hw';subst hw2;go_wp2_with fail;refine HC.out.mono ?_;rintro e w4 ⟨v3,out3,lab3,rfl,hr3,ht3,m3⟩;obtain ⟨htri,hb2,hlab2,hkeys2,hr2,hkk,hf,hj,hjb,hpe,hout⟩:=HALL.out;obtain ⟨a3,c3',rfl⟩:=own_slice hr3.1;have hr2m:=hr2.mv m3 (fun h=>h);have hb4:=hb2.trans ((m3.toBelow (Nat.le_refl _) (fun _ _ h=>h)).mono hb2.size);have ho3:out3.length≤40000:=by
       have h1:=congrArg List.length ht3;rw [List.length_map] at h1;have h2:=plT_len j d (path ++ ⟨#[47]⟩ ++ x.1) hjb;have:=HPL.out;omega
      obtain ⟨v5,w5,hrun5,hr5,hg5⟩:=app_pl (xs:=out ++ [pe]) (ys:=out3) hb4.size hr2m hr3 (by simp;omega);have m5:=Mv.grown (M:=(·=50)) hg5 lab3 50 (fun y hy=>hr2m.2 y hy);have hfin:PlI lab w path ks fs l (.slice (some ⟨kg,0,none⟩) ks.length kcap) (k + 1) v5 ((out ++ [pe]) ++ out3) (lab3.ext w4.heap.size 50) w5:=by
       refine ⟨hr5,?_,(hkeys2.mv m3 (fun h=>h)).mv m5 (by decide),hb4.grown hg5 hb4.size (fun y hy=>(hr2m.1.lt y hy).1),fun y hy=>?_⟩
       ·rw [List.map_append,List.map_append,htri,ht3,plL_take path k ks fs l hkk hf hj,hpe];simp [triO,sla]
       ·have h2:=hb2.size;have h4:=hb4.size;rw [Lab.ext_lt (by omega),m3.lab y (by omega) (fun h=>h)];exact hlab2 y hy
      have HF:=Lib.hid hfin;clear hfin m5 hg5 hr5 hb4 hr2m htri hb2 hlab2 hkeys2 hr2 hkk hf hj hjb hpe hout hr3 ht3 m3;go_wp2;go_roundw
      case rel=>exact ⟨k + 1,_,_,by go_num,by omega,HF.out⟩
      case measure=>simp [RowKit.intOf];omega
     ·have hk1:¬ (k:Int) < (ks.length:Int):=by omega
      have hke:k=ks.length:=by omega
      have HF:=Lib.hid (show PlaRes lab w (plT path (.map ks fs l)) (.returned u5) wr from ⟨_,out,labr,rfl,hI.row,by rw [hI.tri,hke,List.take_length,List.take_of_length_le (by omega),List.take_of_length_le (by omega),plT],hI.mv⟩);clear hI hke hfl hll;go_wp2;go_ret;exact HF.out
   ·intro x c kl yd yp w2 cnt2 hkey hlk hv1 hv2 hat hrg2 hlt hg2 hs2 hen;obtain ⟨x',ex,rfl,_⟩:=Maps.keyOf_str Tryz.underlying9 hkey;obtain rfl:x=x':=encStr_inj ex;have hit:∃ since seen c0,wr.heap[w.heap.size]?=some (.mapIter (some b) since seen c0):=by
     obtain ⟨es,clock,since,seen,c0,_,_,_,_,hi,_⟩:=hrg;exact ⟨_,_,_,hi⟩
    obtain ⟨q1,q2,q3,hit⟩:=hit;have hkvne:∀ k,u10.ownBlock=some k→k ≠ w.heap.size:=by
     rintro k hk rfl;obtain ⟨_,⟨h0,_⟩ | ⟨g,cap,cur,hv,_,hblk,_⟩⟩:=hrow
     ·rw [h0] at hk;cases hk
     ·rw [hv] at hk;simp only [Value.ownBlock,Option.some.injEq] at hk;subst hk;rw [hit] at hblk;cases hblk
    have hrow2:w2.ownsRow w.heap.size 9 1 u10 ss.length (ss.map encStr):=ownsRow_kept hrow hg2 (fun k hk e=>hkvne k hk (by simpa using e));have hnx2:Below w.heap.size w w2:=hnx.grown hg2 hnx.size (fun j hj=>by cases hj;omega);have hB:w.heap.size≤w2.heap.size:=hnx2.size;clear hs2 hg2 hit;go_wp2_with (at_builtin;refine app_one w.heap.size rfl _ _ 23 9 (.string { data:=#[] }) 1 16 rfl Tryz.underlying23 info9 rfl (by decide) (by decide) u10 ss.length (ss.map encStr) [encStr x] rfl rfl rfl (by simp [Value.oneCell',encStr]) hrow2 hB (by omega) ?_);intro v1 w3 hown3 hg3 hat3;have hkb:∀ k,u10.ownBlock=some k→k ≠ b:=by
     intro k hk;obtain ⟨es,clock,since,seen,c0,hb',_⟩:=hrg2;obtain ⟨_,⟨h0,_⟩ | ⟨g',cap',cur,hv,_,hblk,_⟩⟩:=hrow2
     ·rw [h0] at hk;cases hk
     ·rw [hv] at hk;simp only [Value.ownBlock,Option.some.injEq] at hk;subst hk;rintro e;rw [e,hb'] at hblk;cases hblk
    have hrg3:=hrg2.kept hg3 (fun e=>hkb _ e.symm rfl) (fun e=>hkvne _ e.symm rfl);have hnx3:Below w.heap.size w w3:=hnx2.grown hg3 hnx2.size (fun j hj=>(hrow2.lt j hj).1);obtain ⟨g,cap,e7,_,_⟩:=hown3.form (by omega);subst e7;have HF:=Lib.hid (aI hrg3 (aI hown3 (aI (hC.step hlk hat) hnx3)));have HLT:=Lib.hid (show w3.rangeLeft b w.heap.size < wr.rangeLeft b w.heap.size by rw [hrg3.left_eq,hrg.left_eq];exact hlt);clear hrg3 hnx3 hkb hown3 hg3 hat3 hnx2 hrow2 hkvne hrg hrow hC hnx hrg2;go_wp2;go_roundw
    case rel=>exact ⟨_,cnt2,ss ++ [x],HF.out.1,by simp;omega,by simpa using HF.out.2.1,HF.out.2.2.1,HF.out.2.2.2⟩
    case measure=>exact HLT.out
end
end Go.Cf
namespace Go.Cf
open Go.RowKit Go.Conc Go.Proofs Go.Maps
section
variable {B:Nat} {lab lab1:Lab} {w w1:World}
theorem pla_all:∀ d,d≤6→PlaC d
 | 0,_=>fun j lab w path v hb _ h=>by
  cases j with
  | leaf=>exact pla_leaf h
  | map ks fs l=>simp only [TVb] at hb
 | d + 1,hd=>fun j lab w path v hb hp h=>by
  have hpl:plB d≤40000:=by
   match d,hd with
   | 0,_ | 1,_ | 2,_ | 3,_ | 4,_ | 5,_=>decide
  cases j with
  | leaf=>exact pla_leaf h
  | map ks fs l=>exact pla_map (pla_all d (by omega)) hpl hb hp h
theorem CAtQ.root {m:List (ByteArray × TI)} {v:Value} (h:CAtQ B 20 9 lab w (.map m) v):∃ lab',isV lab' w (CQ.map m).tv v∧Mv PM w lab w lab':=by
 have m1:Mv (fun x=>x=9) w lab w (fun k=>if lab k=9 then 6 else lab k):=⟨rfl,rfl,rfl,Nat.le_refl _,fun _ _ _=>rfl,fun k _ hn=>if_neg hn⟩;obtain ⟨b,z,rfl,hp,hz,ht,hn⟩:=h;have h6:CAtQ B 20 6 (fun k=>if lab k=9 then 6 else lab k) w (.map m) (.iface 61 (.map (some b))):=by
  refine ⟨b,z,rfl,hp.mv m1 (by decide),hz,fun x hx=>?_,hn⟩;obtain ⟨g,c0,c1,c3,u,e,hc,hu⟩:=ht x hx;exact ⟨g,c0,c1,c3,u,e,⟨hc.1,if_pos hc.2⟩,isV.mv m1 (by decide) _ _ hu⟩
 refine ⟨_,h6.close (by decide),⟨rfl,rfl,rfl,Nat.le_refl _,fun _ _ _=>rfl,fun k _ hn=>?_⟩⟩;have hn':¬ (lab k ≠ 0∧lab k ≠ 6∧lab k ≠ 7):=hn;show (if (if lab k=9 then 6 else lab k)=20 then 6 else (if lab k=9 then 6 else lab k))=lab k;have h9:lab k ≠ 9:=by omega
 rw [if_neg h9,if_neg (by omega)]
set_option maxRecDepth 100000 in
set_option maxHeartbeats 1000000 in
theorem Places_c (s:ByteArray) (m:List (ByteArray × TI)) (htb:Tb L0 w) (hr:ReadQ s m) (hb:TVb 6 (CQ.map m).tv) :
  Calls Tryz.prog 20 #[.string s] w fun e w'=>∃ v out lab',e=.returned (.tuple #[v,.int .i64 0])∧Rw w.heap.size 50 lab' w' 60 4 v out.length (flatO out)∧out.map triO=plT ⟨#[]⟩ (CQ.map m).tv∧Below w.heap.size w w':=by
 have HB:=Lib.hid hb;clear hb;go_enter Tryz.func20,Tryz.ntmps20;go_wp2_with fail;refine (Checks_c (B:=0) (lab:=L0) s m (Nat.zero_le _) htb hr).mono ?_;rintro e w1 ⟨mp,lab1,rfl,hc,m1⟩;obtain ⟨lab2,hv,m2⟩:=hc.root;have hb1:=m1.toBelow (B:=w.heap.size) (Nat.le_refl _) (fun k _ h=>h.1 rfl);have HC:=Lib.hid (pla_all 6 (by decide) _ lab2 w1 ⟨#[]⟩ _ HB.out (by decide) (.inl hv));have HB1:=Lib.hid hb1;clear hc hv m2 m1 hb1;go_wp2_with fail;refine HC.out.mono ?_;rintro e w2 ⟨v,out,lab3,rfl,hr3,ht3,m3⟩;have hb2:=HB1.out.trans ((m3.toBelow (Nat.le_refl _) (fun _ _ h=>h)).mono HB1.out.size);obtain ⟨a3,c3,rfl⟩:=own_slice hr3.1;have HF:=Lib.hid (aI hr3 (aI ht3 hb2));clear hr3 ht3 hb2 m3;go_wp2;go_ret2;refine ⟨_,out,lab3,rfl,⟨⟨HF.out.1.1.1,?_⟩,HF.out.1.2⟩,HF.out.2.1,HF.out.2.2⟩;rcases HF.out.1.1.2 with h | ⟨g,cap,cur,h1,h2,h3⟩
 ·exact .inl h
 ·exact .inr ⟨g,cap,cur,h1,Nat.le_trans HB1.out.size h2,h3⟩
end
end Go.Cf
namespace Go.Cf
open Go.RowKit Go.Conc Go.Proofs
def flg (P:Pls):List (ByteArray × Int × Bool):=P.map fun x=>(x.1,((x.2:Nat):Int),false)
def marks (U:List ByteArray) (cx:List CQ):List CQ:=U.foldl (fun c k=>markCx k c) cx
def markMs (U:List ByteArray) (m:List (ByteArray × TI)):List (ByteArray × TI):=U.foldl (fun c k=>markM k c) m
def JV.isLf:JV→Prop
 | .map _ _=>False
 | _=>True
def EnvQ (env:List (ByteArray × JV)) (cx:List CQ):Prop:=∀ x ∈ env,x.2.isLf→∃ i,RootIn x.1 (i,TV.leaf) cx
def inU (U:List ByteArray) (k:ByteArray):Bool:=U.any fun u=>decide (k=u)
def putsQ:List ByteArray→List TI→List (ByteArray × TI)→List (ByteArray × TI)
 | k :: ks,j :: l,m=>putsQ ks l (putL k j m)
 | _,_,m=>m
section
variable {cx:List CQ} {env:List (ByteArray × JV)} {m:List (ByteArray × TI)} {s k:ByteArray}
theorem marks_app (U1 U2:List ByteArray):marks (U1 ++ U2) cx=marks U2 (marks U1 cx):=List.foldl_append ..
theorem markMs_app (U1 U2:List ByteArray):markMs (U1 ++ U2) m=markMs U2 (markMs U1 m):=List.foldl_append ..
theorem marks_len:∀ (U:List ByteArray) (cx:List CQ),(marks U cx).length=cx.length
 | [],_=>rfl
 | u :: U,cx=>by
  show (marks U (markCx u cx)).length=_
  rw [marks_len U,markCx_len]
theorem markCx_cons (c:CQ) (h:cx ≠ []):markCx k (c :: cx)=c :: markCx k cx:=by
 cases cx with
 | nil=>exact absurd rfl h
 | cons c2 cs=>simp only [markCx]
theorem marks_cons (c:CQ):∀ (U:List ByteArray) (cx:List CQ),cx ≠ []→marks U (c :: cx)=c :: marks U cx
 | [],_,_=>rfl
 | u :: U,cx,h=>by
  show marks U (markCx u (c :: cx))=c :: marks U (markCx u cx)
  rw [markCx_cons c h];refine marks_cons c U _ fun e=>h ?_
  have:=markCx_len u cx;rw [e] at this;exact List.eq_nil_of_length_eq_zero this.symm
theorem marks_one:∀ (U:List ByteArray) (m:List (ByteArray × TI)),marks U [.map m]=[.map (markMs U m)]
 | [],_=>rfl
 | u :: U,m=>marks_one U (markM u m)
theorem marks_ne (U:List ByteArray) (h:cx ≠ []):∃ c2 cs,marks U cx=c2 :: cs∧cs.length + 1=cx.length:=by
 have:=marks_len U cx
 cases hm:marks U cx with
 | nil =>
  rw [hm] at this;exact absurd (List.eq_nil_of_length_eq_zero this.symm) h
 | cons c2 cs =>
  rw [hm] at this;exact ⟨c2,cs,rfl,this⟩
theorem markM_keys (k:ByteArray) (m:List (ByteArray × TI)):(markM k m).map (·.1)=m.map (·.1):=by
 unfold markM;rw [List.map_map];refine List.map_congr_left fun x _=>?_
 simp only [Function.comp]
 split <;> rfl
theorem markM_mem {i:TI} (h:(s,i) ∈ m):∃ f,(s,(f,i.2)) ∈ markM k m:=by
 unfold markM;by_cases e:s=k
 ·exact ⟨(i.1.1,true),List.mem_map.2 ⟨(s,i),h,by rw [if_pos e]⟩⟩
 ·exact ⟨i.1,List.mem_map.2 ⟨(s,i),h,by rw [if_neg e]⟩⟩
theorem RootIn.mark {i:TI}:∀ {cx:List CQ},RootIn s i cx→∃ f,RootIn s (f,i.2) (markCx k cx)
 | [c],h=>by
  obtain ⟨m,rfl,h1,h2⟩:=h;obtain ⟨f,hf⟩:=markM_mem (k:=k) h1;exact ⟨f,_,rfl,hf,by rw [markM_keys];exact h2⟩
 | c :: c2 :: cs,h=>by
  obtain ⟨f,hf⟩:=RootIn.mark h.2;refine ⟨f,?_⟩;rw [markCx_cons c (by simp)]
  cases hm:markCx k (c2 :: cs) with
  | nil =>
   have:=markCx_len k (c2 :: cs);rw [hm] at this;cases this
  | cons c3 cs3 =>
   rw [hm] at hf;exact ⟨h.1,hf⟩
theorem EnvQ.mark (h:EnvQ env cx) (k:ByteArray):EnvQ env (markCx k cx):=fun x hx hl=>by
 obtain ⟨i,hi⟩:=h x hx hl;exact hi.mark
theorem EnvQ.marks (h:EnvQ env cx) (U:List ByteArray):EnvQ env (Go.Cf.marks U cx):=by
 induction U generalizing cx with
 | nil=>exact h
 | cons u U ih=>exact ih (h.mark u)
theorem RootIn.ne {i:TI} (h:RootIn s i cx):∃ c cs,cx=c :: cs:=by
 cases cx with
 | nil=>exact h.elim
 | cons c cs=>exact ⟨c,cs,rfl⟩
theorem EnvQ.arr (h:EnvQ env cx) (n:Nat):EnvQ env (.arr n :: cx):=fun x hx hl=>by
 obtain ⟨i,hi⟩:=h x hx hl;obtain ⟨c,cs,rfl⟩:=hi.ne;exact ⟨i,trivial,hi⟩
theorem EnvQ.map (h:EnvQ env cx) (hd:∀ x ∈ env,∀ y ∈ m,x.1 ≠ y.1):EnvQ env (.map m :: cx):=fun x hx hl=>by
 obtain ⟨i,hi⟩:=h x hx hl;obtain ⟨c,cs,rfl⟩:=hi.ne;exact ⟨i,fun y hy e=>hd x hx y hy e.symm,hi⟩
theorem putL_memQ {j:TI} {y:ByteArray × TI} (h:y ∈ putL k j m):y=(k,j) ∨ (y ∈ m∧y.1 ≠ k):=by
 unfold putL at h;rcases List.mem_cons.1 ((insL_perm (k,j) _).mem_iff.1 h) with h | h
 ·exact .inl h
 ·obtain ⟨h1,h2⟩:=List.mem_filter.1 h;refine .inr ⟨h1,fun e=>?_⟩;rw [e] at h2;simp at h2
theorem putL_self {j:TI}:(k,j) ∈ putL k j m:=by
 unfold putL;exact (insL_perm (k,j) _).mem_iff.2 (List.mem_cons_self ..)
theorem putL_keep {j:TI} {y:ByteArray × TI} (h:y ∈ m) (hk:y.1 ≠ k):y ∈ putL k j m:=by
 unfold putL;refine (insL_perm (k,j) _).mem_iff.2 (List.mem_cons_of_mem _ (List.mem_filter.2 ⟨h,?_⟩));rw [bytes_ne hk];rfl
theorem putL_nodup {j:TI} (h:(m.map (·.1)).Nodup):((putL k j m).map (·.1)).Nodup:=by
 unfold putL;rw [((insL_perm (k,j) _).map (·.1)).nodup_iff,List.map_cons,List.nodup_cons];refine ⟨fun hm=>?_,h.sublist ((List.filter_sublist ..).map _)⟩;obtain ⟨y,hy,e⟩:=List.mem_map.1 hm;have:=(List.mem_filter.1 hy).2;rw [show y.1=k from e] at this;simp at this
theorem insL_markM (u k:ByteArray) (hu:u ≠ k) (j:TI):∀ m:List (ByteArray × TI),insL (k,j) (markM u m)=markM u (insL (k,j) m)
 | []=>by simp [markM,insL,Ne.symm hu]
 | y :: r=>by
  have ih:=insL_markM u k hu j r;unfold markM at ih ⊢;have hy:(if y.1=u then (y.1,((y.2.1.1,true),y.2.2)) else y).1=y.1:=by split <;> rfl
  simp only [List.map_cons,insL,hy]
  split
  ·simp [Ne.symm hu]
  ·rw [List.map_cons,ih]
theorem putL_markM (hu:s ≠ k) (j:TI):putL k j (markM s m)=markM s (putL k j m):=by
 unfold putL;rw [← insL_markM s k hu]
 congr 1
 unfold markM;rw [List.filter_map]
 congr 1
 refine List.filter_congr fun y _=>?_
 simp only [Function.comp]
 split <;> rfl
theorem putL_markMs (j:TI):∀ (U:List ByteArray) (m:List (ByteArray × TI)),(∀ u ∈ U,u ≠ k)→putL k j (markMs U m)=markMs U (putL k j m)
 | [],_,_=>rfl
 | u :: U,m,h=>by
  show putL k j (markMs U (markM u m))=markMs U (markM u (putL k j m))
  rw [putL_markMs j U _ (fun x hx=>h x (List.mem_cons_of_mem _ hx)),putL_markM (h u (List.mem_cons_self ..))]
theorem markMs_len:∀ (U:List ByteArray) (m:List (ByteArray × TI)),(markMs U m).length=m.length
 | [],_=>rfl
 | u :: U,m=>by
  show (markMs U (markM u m)).length=_
  rw [markMs_len U];unfold markM;rw [List.length_map]
theorem markMs_keys:∀ (U:List ByteArray) (m:List (ByteArray × TI)),(markMs U m).map (·.1)=m.map (·.1)
 | [],_=>rfl
 | u :: U,m=>by
  show (markMs U (markM u m)).map (·.1)=_
  rw [markMs_keys U,markM_keys]
theorem markMs_map:∀ (U:List ByteArray) (m:List (ByteArray × TI)),markMs U m=m.map fun (x:ByteArray × TI)=>(x.1,((x.2.1.1,x.2.1.2 || inU U x.1),x.2.2))
 | [],m=>by simp [markMs,inU]
 | u :: U,m=>by
  show markMs U (markM u m)=_
  rw [markMs_map U];unfold markM;rw [List.map_map];refine List.map_congr_left fun x _=>?_
  simp only [Function.comp];by_cases e:x.1=u
  ·simp [e,inU]
  ·simp [e,inU]
theorem putL_lastQ (k:ByteArray) (j:TI):∀ (m:List (ByteArray × TI)),(∀ y ∈ m,bytesBefore k.data.toList y.1.data.toList=false∧y.1 ≠ k)→putL k j m=m ++ [(k,j)]:=by
 intro m hm;unfold putL;have hf:(m.filter fun p=>!(p.1.data.toList == k.data.toList))=m:=by
  rw [List.filter_eq_self];intro y hy;rw [bytes_ne (hm y hy).2];rfl
 rw [hf];clear hf
 induction m with
 | nil=>rfl
 | cons y r ih =>
  simp only [insL];rw [if_neg (by rw [(hm y (List.mem_cons_self ..)).1];decide),ih (fun z hz=>hm z (List.mem_cons_of_mem _ hz))];rfl
theorem putsQ_asc:∀ (ks:List ByteArray) (l:List TI) (m:List (ByteArray × TI)),l.length=ks.length→ks.Pairwise (fun x y=>bytesBefore y.data.toList x.data.toList=false∧x ≠ y) →
  (∀ k ∈ ks,∀ y ∈ m,bytesBefore k.data.toList y.1.data.toList=false∧y.1 ≠ k)→putsQ ks l m=m ++ ks.zip l
 | [],[],m,_,_,_=>by simp [putsQ]
 | [],_ :: _,_,h,_,_=>by simp at h
 | _ :: _,[],_,h,_,_=>by simp at h
 | k :: ks,j :: l,m,hl,hp,hm=>by
  have hp':=List.pairwise_cons.1 hp;show putsQ ks l (putL k j m)=_;rw [putL_lastQ k j m (hm k (List.mem_cons_self ..)),putsQ_asc ks l _ (by simpa using hl) hp'.2 ?_]
  ·simp
  ·intro x hx y hy;rcases List.mem_append.1 hy with hy | hy
   ·exact hm x (List.mem_cons_of_mem _ hx) y hy
   ·rw [List.mem_singleton.1 hy];exact hp'.1 x hx
theorem zip_tv {ks:List ByteArray} {l:List TI} (h:l.length=ks.length):(CQ.map (ks.zip l)).tv=.map ks (l.map (·.1)) (l.map (·.2)):=by
 have h1:(ks.zip l).map (·.1)=ks:=List.map_fst_zip (by omega);have h2:(ks.zip l).map (·.2)=l:=List.map_snd_zip (by omega);simp only [CQ.tv];rw [h1,show (fun x:ByteArray × TI=>x.2.1)=(fun y:TI=>y.1) ∘ (fun x:ByteArray × TI=>x.2) from rfl,show (fun x:ByteArray × TI=>x.2.2)=(fun y:TI=>y.2) ∘ (fun x:ByteArray × TI=>x.2) from rfl,← List.map_map,← List.map_map,h2]
def JVb:Nat→JV→Prop
 | d + 1,.map ks l=>ks.length≤8∧(∀ k ∈ ks,k.size≤20)∧∀ j ∈ l,JVb d j
 | 0,.map _ _=>False
 | _,_=>True
end
theorem Has.nl {s:ByteArray} {p:Nat} {A:ByteArray} (h:Has s p A):nlc s (p + A.size)=nlc s p + nlT A:=by
 have key:∀ n,n≤A.size→nlc s (p + n)=nlc s p + nlc A n:=by
  intro n
  induction n with
  | zero=>intro _;rfl
  | succ n ih =>
   intro hn;have hle:=h.le;rw [← Nat.add_assoc,nlc_succ _ _ (by omega),ih (by omega),nlc_succ _ _ (by omega),h.at n (by omega),Nat.add_assoc]
 exact key A.size (Nat.le_refl _)
theorem flg_app (P Q:Pls):flg (P ++ Q)=flg P ++ flg Q:=List.map_append ..
def VQ (s:ByteArray) (env:List (ByteArray × JV)) (U:List ByteArray) (T:ByteArray) (nl:Bool) (p:Nat) (tv:TV):Prop :=
 ∀ (K:PK) (n pt:Nat) (sk:List Nat) (cx cx1 fin:List CQ) (ks ks1:List ByteArray) (ls ls1:List Int),EnvQ env cx→p + T.size < s.size→tmB (byteAt s (p + T.size))→(nl=true→byteAt s (p + T.size)=10)→cx ≠ []→cx.length≤p + 2→sk.length≤p + 2→ks.length≤p + 2→ls.length≤p + 2 →
  (∀ L,(⟨L,marks U cx,ks,ls⟩:PQ).Sets tv ⟨L,cx1,ks1,ls1⟩)→(∀ pt',pt' ≠ 3→FdQ K s (p + T.size) (p + T.size) sk (plainT n) cx1 ks1 ls1 pt' fin)→FdQ K s p p (sk ++ [n]) (plainT 174) cx ks ls pt fin
def LQ (s:ByteArray) (env:List (ByteArray × JV)) (U:List ByteArray) (T:ByteArray) (p k:Nat):Prop :=
 ∀ (K:PK) (pt:Nat) (stk:List Nat) (l0:Nat) (cx fin:List CQ) (ks:List ByteArray) (ls:List Int),EnvQ env cx→p + T.size < s.size→tmB (byteAt s (p + T.size))→cx ≠ []→cx.length≤p + 1→stk.length≤p + 2→ks.length≤p + 2→ls.length≤p + 2→l0≤p + 1→pt ≠ 3 →
  (∀ pt',pt' ≠ 3→FdQ K s (p + T.size) (p + T.size) stk (plainT 190) (.arr (l0 + k) :: marks U cx) ks ls pt' fin)→FdQ K s p p stk (plainT 190) (.arr l0 :: cx) ks ls pt fin
def EQ (s:ByteArray) (env:List (ByteArray × JV)) (U:List ByteArray) (T:ByteArray) (p:Nat) (kl:List ByteArray) (tis:List TI):Prop :=
 ∀ (K:PK) (pt:Nat) (stk:List Nat) (m:List (ByteArray × TI)) (cx fin:List CQ) (ks:List ByteArray) (ls:List Int),EnvQ env cx→p + T.size < s.size→cx ≠ []→cx.length≤p + 1→stk.length≤p + 2→ks.length≤p + 1→ls.length≤p + 1→m.length≤p + 1→(∀ x ∈ env,∀ y ∈ m,x.1 ≠ y.1)→pt ≠ 3 →
  (∀ pt',pt' ≠ 3→FdQ K s (p + T.size) (p + T.size) stk (plainT 181) (.map (putsQ kl tis m) :: marks U cx) ks ls pt' fin)→FdQ K s p p stk (plainT 181) (.map m :: cx) ks ls pt fin
theorem putL_lenQ (k:ByteArray) (j:TI) (m:List (ByteArray × TI)):(putL k j m).length≤m.length + 1:=by
 unfold putL;rw [(insL_perm (k,j) _).length_eq,List.length_cons];have:=List.length_filter_le (fun p:ByteArray × TI=>!(p.1.data.toList == k.data.toList)) m;omega
theorem gl_first {env:List (ByteArray × JV)} {mk:Nat} {l:List JV} {T:ByteArray} {U:List ByteArray} (h:GL env mk false l T U):(l=[]∧T=⟨#[]⟩) ∨ (0 < T.size∧tmB (byteAt T 0)):=by
 cases l with
 | nil=>simp only [GL] at h;exact .inl ⟨rfl,h.1⟩
 | cons j r =>
  simp only [GL] at h;obtain ⟨V,R,U1,U2,path,ln,P,_,_,_,rfl⟩:=h;exact .inr (first_app (mkT_tm mk))
theorem jvb_lf {j:JV} (_:j.isLf) {d:Nat}:TVb d .leaf:=by
 cases d <;> simp only [TVb]
theorem var_q {s:ByteArray} {env:List (ByteArray × JV)} {k:ByteArray} {j:JV} {T:ByteArray} {p:Nat} {nl:Bool} (hss:s.size≤700000) (hv:VarK env k j T) (hj:j.isLf) (hh:Has s p T):VQ s env [k] T nl p .leaf:=by
 obtain ⟨hk,hB,rfl⟩:=hv;intro K n pt sk cx cx1 fin ks ks1 ls ls1 he hlt htm hnl hne b1 b2 b3 b4 hs rest;obtain ⟨i,hi⟩:=he _ hk hj;exact fq_var hB hi (by omega) (by omega) hh hlt htm (by omega) hs rest
mutual
theorem reads_vq {s:ByteArray} (hF:HasF) (hss:s.size≤700000):∀ (j:JV) {env:List (ByteArray × JV)} {li:Bool} {path:ByteArray} {ln:Nat} {nl:Bool} {T:ByteArray} {U:List ByteArray} {P:Pls} {p:Nat},
  GV env li path ln j nl T U P→nlc s p=ln→Has s p T→∃ tv,plT path tv=flg P∧(∀ d,JVb d j→TVb d tv)∧(j.isLf→tv=.leaf)∧VQ s env U T nl p tv
 | .int v,env,li,path,ln,nl,T,U,P,p,h,hln,hh=>by
  simp only [GV] at h;obtain ⟨rfl,rfl,h⟩:=h;refine ⟨.leaf,by simp [plT,flg],fun d _=>jvb_lf (j:=.int v) trivial,fun _=>rfl,?_⟩;rcases h with ⟨rfl,h⟩ | ⟨k,rfl,h⟩
  ·intro K n pt sk cx cx1 fin ks ks1 ls ls1 he hlt htm hnl hne b1 b2 b3 b4 hs rest;exact fq_int h hh hlt htm (by omega) hs rest
  ·exact var_q hss h trivial hh
 | .num f,env,li,path,ln,nl,T,U,P,p,h,hln,hh=>by
  simp only [GV] at h;obtain ⟨rfl,rfl,rfl,h⟩:=h;refine ⟨.leaf,by simp [plT,flg],fun d _=>jvb_lf (j:=.num f) trivial,fun _=>rfl,?_⟩;intro K n pt sk cx cx1 fin ks ks1 ls ls1 he hlt htm hnl hne b1 b2 b3 b4 hs rest;exact fq_flt (h.sp hF) hh hlt htm (by omega) hs rest
 | .tr b,env,li,path,ln,nl,T,U,P,p,h,hln,hh=>by
  simp only [GV] at h;obtain ⟨rfl,rfl,rfl,i,hi,rfl⟩:=h;refine ⟨.leaf,by simp [plT,flg],fun d _=>jvb_lf (j:=.tr b) trivial,fun _=>rfl,?_⟩;intro K n pt sk cx cx1 fin ks ks1 ls ls1 he hlt htm hnl hne b1 b2 b3 b4 hs rest;exact fq_tr b i hi hh hlt htm (by omega) hs rest
 | .txt t,env,li,path,ln,nl,T,U,P,p,h,hln,hh=>by
  simp only [GV] at h;obtain ⟨rfl,h⟩:=h;refine ⟨.leaf,by simp [plT,flg],fun d _=>jvb_lf (j:=.txt t) trivial,fun _=>rfl,?_⟩;rcases h with ⟨rfl,h⟩ | ⟨_,k,rfl,h⟩
  ·intro K n pt sk cx cx1 fin ks ks1 ls ls1 he hlt htm hnl hne b1 b2 b3 b4 hs rest;exact fq_txt h hh hlt htm hnl (by omega) hs rest
  ·exact var_q hss h trivial hh
 | .arr l,env,li,path,ln,nl,T,U,P,p,h,hln,hh=>by
  simp only [GV] at h;obtain ⟨rfl,rfl,a,mk,b,Es,R,hl,hR,rfl⟩:=h;refine ⟨.leaf,by simp [plT,flg],fun d _=>jvb_lf (j:=.arr l) trivial,fun _=>rfl,?_⟩;intro K n pt sk cx cx1 fin ks ks1 ls ls1 he hlt htm hnl hne b1 b2 b3 b4 hs rest;have h0:=hh.left;have h1:=hh.right;have z1:(⟨#[91]⟩:ByteArray).size=1:=rfl;have z3:(⟨#[93]⟩:ByteArray).size=1:=rfl;simp only [bsa,z1,z3] at rest hlt h1;have ha:=h1.left;have h2:=h1.right;have hb:=h2.left;have hc:=h2.right;have e0:byteAt s p=91:=h0.at 0 (by decide);obtain ⟨c2,cs,hcx,hcl⟩:=marks_ne U hne;have fin1:∀ (l' q st pt':Nat),q=p + (1 + ((sp3 a).size + (Es.size + (R.size + ((sp3 b).size + 1)))))→st≤q→pt' ≠ 3→FdQ K s q st (sk ++ [n]) (plainT 189) (.arr l' :: marks U cx) ks ls pt' fin:=by
   intro l' q st pt' hq hst hpt;subst hq;rw [hcx] at hs ⊢;exact FdQ.step (ld_le_go hst sk n rfl (by omega)) (by decide) (fun L x h1 _ _=>worksQ_listend L x h1 (by omega) (hs L)) (rest 11 (by decide))
  refine FdQ.step (ld_val_arr (by omega) (Nat.le_refl _) e0) (by decide) (fun L x h1 _ _=>worksQ_list L x h1 (by omega) hne) ?_;refine fq_av3 a ha ?_
  cases l with
  | nil =>
   simp only [GL] at hl;obtain ⟨rfl,rfl⟩:=hl;rcases hR with ⟨_,rfl⟩ | ⟨h,_⟩
   ·have hc2:=hc.right;refine fq_av_close b hc2 fun st hst=>fin1 _ _ _ _ ?_ hst (by decide)
    show p + 1 + (sp3 a).size + 0 + 0 + (sp3 b).size + 1=p + (1 + ((sp3 a).size + (0 + (0 + ((sp3 b).size + 1)))))
    omega
   ·exact absurd rfl h
  | cons j r =>
   simp only [GL,if_true,empty_app] at hl;obtain ⟨V,R1,U1,U2,path1,ln1,P1,hV,hr,rfl,rfl⟩:=hl;rcases hR with ⟨h,_⟩ | ⟨_,tl,rfl⟩
   ·cases h
   have hV1:=hb.left;have hR1:=hb.right;simp only [bsa] at hc fin1 hlt;rw [← Nat.add_assoc] at hc;have hf:=spv_first (gv_sp hF j hV);have hv:=hf.2.vs;have ev:=hV1.at 0 hf.1;rw [Nat.add_zero] at ev;have hvl:=hV1.lt 0 hf.1;rw [Nat.add_zero] at hvl;have hct:=hc.left.tm (tlT_tm tl);have htmV:p + 1 + (sp3 a).size + V.size < s.size∧tmB (byteAt s (p + 1 + (sp3 a).size + V.size)):=by
    rcases gl_first hr with ⟨_,rfl⟩ | h
    ·exact hct
    ·exact hR1.tm h
   obtain ⟨P1',hV'⟩:=GV.move path (nlc s (p + 1 + (sp3 a).size)) j hV;obtain ⟨tv,_,_,_,hQ⟩:=reads_vq hF hss j hV' rfl hV1;have hL:=reads_lq hF hss r hr hR1;have hm1:marks U1 (.arr 0 :: cx)=.arr 0 :: marks U1 cx:=marks_cons _ U1 cx hne;obtain ⟨c3,cs3,hcx3,hcl3⟩:=marks_ne U1 hne;refine FdQ.lead (ld_arr_other hvl (by simp only [List.length_append,List.length_cons,List.length_nil];omega) (by rw [ev];exact hv.1.1) (by rw [ev];exact hv.2.2.2.1) (by rw [ev];exact hv.2.2.2.2.1) (by rw [ev];exact hv.2.1) (by rw [ev];exact hv.2.2.2.2.2)) ?_;refine hQ K _ _ _ (.arr 0 :: cx) (.arr (0 + 1) :: marks U1 cx) _ _ _ _ _ (he.arr _) htmV.1 htmV.2 (fun h=>by cases h) (by simp) (by simp only [List.length_cons];omega) (by simp only [List.length_append,List.length_cons,List.length_nil];omega) (by omega) (by omega)
    (fun L=>by rw [hm1];exact .arr 0 (marks U1 cx) rfl (by rw [marks_len];omega) (by simp)) fun pt2 hpt2=>?_
   refine hL K _ _ _ (marks U1 cx) _ _ _ (he.marks U1) hct.1 hct.2 (by rw [hcx3];simp) (by rw [marks_len];omega) (by simp only [List.length_append,List.length_cons,List.length_nil];omega) (by omega) (by omega) (by omega) hpt2 fun pt3 hpt3=>?_
   rw [← marks_app];refine fq_tail tl b hc fun st hst=>fin1 _ _ _ _ ?_ hst hpt3
   omega
 | .map kl l,env,li,path,ln,nl,T,U,P,p,h,hln,hh=>by
  simp only [GV] at h;obtain ⟨rfl,a,Es,hE,hpw,rfl⟩:=h;have h0:=hh.left;have h1:=hh.right;have z1:(⟨#[123]⟩:ByteArray).size=1:=rfl;have z3:(⟨#[125]⟩:ByteArray).size=1:=rfl;rw [z1] at h1;have ha:=h1.left;have h2:=h1.right;have hb:=h2.left;have hc:=h2.right;have e0:byteAt s p=123:=h0.at 0 (by decide);have hcl:=hc.lt 0 (by decide);rw [Nat.add_zero] at hcl;have e9:byteAt s (p + 1 + (sp3 a).size + Es.size)=125:=hc.at 0 (by decide);have hl1:nlc s (p + 1)=nlc s p:=by rw [nlc_succ _ _ (by omega),e0];rfl
  have hln2:nlc s (p + 1 + (sp3 a).size)=ln + nlT (sp3 a):=by rw [ha.nl,hl1,hln]
  obtain ⟨tis,hti,hpl,hbd,hd,hQ⟩:=reads_eq hF hss l hE hln2 hb;have hmj:=putsQ_asc kl tis [] hti hpw (by simp);rw [List.nil_append] at hmj;refine ⟨.map kl (tis.map (·.1)) (tis.map (·.2)),by simp only [plT];exact hpl,fun d hj=>?_,fun h=>h.elim,?_⟩
  ·cases d with
   | zero=>simp only [JVb] at hj
   | succ d =>
    simp only [JVb] at hj;simp only [TVb,List.length_map];refine ⟨hj.1,hti,hti,hj.2.1,fun t ht=>?_⟩;obtain ⟨i,hi,rfl⟩:=List.mem_map.1 ht;exact hbd d hj.2.2 i hi
  intro K n pt sk cx cx1 fin ks ks1 ls ls1 he hlt htm hnl hne b1 b2 b3 b4 hs rest;obtain ⟨c2,cs,hcx,hcl2⟩:=marks_ne U hne;simp only [bsa,z1,z3] at rest hlt;have M:=modeQ_map (K:=K) (sk ++ [n]) (by simp only [List.length_append,List.length_cons,List.length_nil];omega);refine FdQ.step (ld_val_map (by omega) (Nat.le_refl _) e0) (by decide) (fun L x h1 _ _=>worksQ_map L x h1 (by omega) hne) ?_;refine M.sp3 a ha ?_;refine hQ K _ _ [] cx _ _ _ he hcl hne (by omega) (by simp only [List.length_append,List.length_cons,List.length_nil];omega) (by omega) (by omega) (by simp) (by simp) (by decide) fun pt2 hpt2=>?_
  refine FdQ.lead ((ld_mks_end hcl e9).trans (ld_skip 191)) ?_;rw [hmj];rw [hcx] at hs ⊢;refine FdQ.step (cx1:=cx1) (ks1:=ks1) (ls1:=ls1) (ld_me_go (Nat.le_refl _) sk n rfl (by omega)) (by decide) (fun L x h1 _ _=>worksQ_mapend L x h1 (by omega) (by rw [zip_tv hti];exact hs L)) ?_
  ·have:=rest 13 (by decide);rwa [show p + (1 + ((sp3 a).size + (Es.size + 1)))=p + 1 + (sp3 a).size + Es.size + 1 from by omega] at this
theorem reads_lq {s:ByteArray} (hF:HasF) (hss:s.size≤700000):∀ (l:List JV) {env:List (ByteArray × JV)} {mk:Nat} {T:ByteArray} {U:List ByteArray} {p:Nat},
  GL env mk false l T U→Has s p T→LQ s env U T p l.length
 | [],env,mk,T,U,p,h,hh=>by
  simp only [GL] at h;obtain ⟨rfl,rfl⟩:=h;intro K pt stk l0 cx fin ks ls he hlt htm hne b1 b2 b3 b5 b4 hpt rest;exact rest pt hpt
 | j :: r,env,mk,T,U,p,h,hh=>by
  simp only [GL,Bool.false_eq_true,if_false] at h;obtain ⟨V,R1,U1,U2,path1,ln1,P1,hV,hr,rfl,rfl⟩:=h;intro K pt stk l0 cx fin ks ls he hlt htm hne b1 b2 b3 b5 b4 hpt rest;have hmk:=mkT_tm mk;have h0:=hh.left;have hb1:=hh.right;have hV1:=hb1.left;have hR1:=hb1.right;simp only [bsa] at rest hlt htm;have hf:=spv_first (gv_sp hF j hV);have hv:=hf.2.vs;have ev:=hV1.at 0 hf.1;rw [Nat.add_zero] at ev;have hvl:=hV1.lt 0 hf.1;rw [Nat.add_zero] at hvl;have htmV:p + (mkT mk).size + V.size < s.size∧tmB (byteAt s (p + (mkT mk).size + V.size)):=by
   rcases gl_first hr with ⟨_,rfl⟩ | h
   ·have zn:(⟨#[]⟩:ByteArray).size=0:=rfl;rw [zn,Nat.add_zero,← Nat.add_assoc] at hlt htm;exact ⟨hlt,htm⟩
   ·exact hR1.tm h
  obtain ⟨P1',hV'⟩:=GV.move ⟨#[]⟩ (nlc s (p + (mkT mk).size)) j hV;obtain ⟨tv,_,_,_,hQ⟩:=reads_vq hF hss j hV' rfl hV1;have hL:=reads_lq hF hss r hr hR1;have hm1:marks U1 (.arr l0 :: cx)=.arr l0 :: marks U1 cx:=marks_cons _ U1 cx hne;obtain ⟨c3,cs3,hcx3,hcl3⟩:=marks_ne U1 hne;refine fq_mark mk h0 ?_;refine FdQ.lead (ld_arr_other hvl (by omega) (by rw [ev];exact hv.1.1) (by rw [ev];exact hv.2.2.2.1) (by rw [ev];exact hv.2.2.2.2.1) (by rw [ev];exact hv.2.1) (by rw [ev];exact hv.2.2.2.2.2)) ?_;refine hQ K _ _ _ (.arr l0 :: cx) (.arr (l0 + 1) :: marks U1 cx) _ _ _ _ _ (he.arr _) htmV.1 htmV.2 (fun h=>by cases h) (by simp) (by simp only [List.length_cons];omega) (by omega) (by omega) (by omega)
   (fun L=>by rw [hm1];exact .arr l0 (marks U1 cx) rfl (by rw [marks_len];omega) (by omega)) fun pt2 hpt2=>?_
  refine hL K _ _ _ (marks U1 cx) _ _ _ (he.marks U1) (by omega) (by rw [show p + (mkT mk).size + V.size + R1.size=p + ((mkT mk).size + (V.size + R1.size)) from by omega];exact htm) (by rw [hcx3];simp) (by rw [marks_len];omega) (by omega) (by omega) (by omega) (by omega) hpt2 fun pt3 hpt3=>?_
  have:=rest pt3 hpt3;rw [show p + ((mkT mk).size + (V.size + R1.size))=p + (mkT mk).size + V.size + R1.size from by omega] at this;rw [← marks_app,show l0 + 1 + r.length=l0 + (j :: r).length from by simp only [List.length_cons];omega];exact this
theorem reads_eq {s:ByteArray} (hF:HasF) (hss:s.size≤700000):∀ (l:List JV) {kl:List ByteArray} {env envF:List (ByteArray × JV)} {path:ByteArray} {ln:Nat} {T:ByteArray} {U:List ByteArray} {P:Pls} {p:Nat},
  GE false env path ln kl l T U P envF→nlc s p=ln→Has s p T→∃ tis:List TI,tis.length=kl.length∧plL path kl (tis.map (·.1)) (tis.map (·.2))=flg P∧(∀ d,(∀ j ∈ l,JVb d j)→∀ t ∈ tis,TVb d t.2)∧(∀ k ∈ kl,∀ x ∈ env,x.1 ≠ k)∧EQ s env U T p kl tis
 | [],kl,env,envF,path,ln,T,U,P,p,h,hln,hh=>by
  simp only [GE] at h;obtain ⟨rfl,rfl,rfl,rfl,_⟩:=h;refine ⟨[],rfl,by simp [plL,flg],fun d _ t ht=>by simp at ht,fun k hk=>by simp at hk,?_⟩;intro K pt stk m cx fin ks ls he hlt hne b1 b2 b3 b5 b4 hm hpt rest;exact rest pt hpt
 | j :: r,kl,env,envF,path,ln,T,U,P,p,h,hln,hh=>by
  simp only [GE] at h;obtain ⟨env1,k,ks',kb,Kt,q,nl,V,e,R,U1,U2,P1,P2,rfl,hk,hkw,hks,hq,hG,hee,hnl,hd,henv,_,hr,rfl,rfl,rfl⟩:=h;obtain rfl:=henv trivial;have h0:=hh.left;have hb1:=hh.right;have hK1:=hb1.left;have hb2:=hb1.right;have hV1:=hb2.left;have hb3:=hb2.right;have hE1:=hb3.left;have hR1:=hb3.right;have hle:=hh.le;have l1:=h0.nl;have l2:=hK1.nl;have l3:=hV1.nl;have l4:=hE1.nl;rw [hln] at l1;rw [l1] at l2;have lV:nlc s (p + (blankT kb).size + (Kt ++ sepT q).size)=ln + nlT (blankT kb ++ (Kt ++ sepT q)):=by rw [l2,nlT_app (blankT kb)];omega
  have lR:nlc s (p + (blankT kb).size + (Kt ++ sepT q).size + V.size + (endR e).size)=ln + nlT (blankT kb ++ ((Kt ++ sepT q) ++ (V ++ endR e))):=by
   rw [l4,l3,lV];simp only [nlT_app];omega
  obtain ⟨tv,hp1,hj1,hlf,hQ⟩:=reads_vq hF hss j hG lV hV1;obtain ⟨tis,ht1,ht2,ht3,ht4,hE⟩:=reads_eq hF hss r hr lR hR1;refine ⟨((1 + ((ln + nlT (blankT kb):Nat):Int),false),tv) :: tis,by simp [ht1],?_,fun d hjb t ht=>?_,fun x hx=>?_,?_⟩
  ·simp only [List.map_cons,plL,hp1,ht2];show _=_ :: flg (P1 ++ P2);rw [flg_app]
   congr 3
   omega
  ·rcases List.mem_cons.1 ht with rfl | ht
   ·exact hj1 d (hjb j (List.mem_cons_self ..))
   ·exact ht3 d (fun x hx=>hjb x (List.mem_cons_of_mem _ hx)) t ht
  ·rcases List.mem_cons.1 hx with rfl | hx
   ·exact hd
   ·exact ht4 x hx
  intro K pt stk m cx fin ks ls he hlt hne b1 b2 b3 b5 b4 hm hpt rest;have M:=modeQ_map (K:=K) stk (by omega);have hf:=spv_first (gv_sp hF j hG);have hv:=hf.2.vs;have ev:=hV1.at 0 hf.1;have hvl:=hV1.lt 0 hf.1;have het:=hE1.tm (endR_tm e hee);have hz1:=(endR_tm e hee).1;have hE10:=hE1.at 0 hz1;clear hR1 hh hb1 hb2 hb3 l2 l3 l4 lV lR;simp only [bsa] at rest hlt hQ hE hvl ev het hE10 hle hE1;rw [Nat.add_zero] at ev hvl hE10;have hm1:marks U1 (.map m :: cx)=.map m :: marks U1 cx:=marks_cons _ U1 cx hne;obtain ⟨c3,cs3,hcx3,hcl3⟩:=marks_ne U1 hne;refine M.blank kb h0 hpt fun pt1 hpt1=>?_
  refine M.key s _ _ _ _ _ _ k Kt q hk hkw hq hK1 hvl (by rw [ev];exact hv.1) (by rw [ev];exact ⟨hv.2.1,hv.2.2.1⟩) (by omega) (by omega) ?_
  rw [l1];refine hQ K _ _ _ (.map m :: cx) (.map (putL k ((1 + ((ln + nlT (blankT kb):Nat):Int),false),tv) m) :: marks U1 cx) _ _ ks _ ls (he.map hm) het.1 het.2 (fun h=>by
    rw [hE10,hnl h]
    rfl) (by simp) (by simp only [List.length_cons];omega) (by omega) (by simp only [List.length_append,List.length_cons,List.length_nil];omega) (by simp only [List.length_append,List.length_cons,List.length_nil];omega)
   (fun L=>by rw [hm1];exact .map m (marks U1 cx) ks k ls _ rfl rfl rfl (by omega) (by omega) (by omega) (by omega)) fun pt2 hpt2=>?_
  refine M.ends e hee hE1 hpt2 fun pt3 hpt3=>?_
  refine hE K _ _ _ (marks U1 cx) _ _ _ (he.marks U1) (by omega) (by rw [hcx3];simp) (by rw [marks_len];omega) (by omega) (by omega) (by omega) (by have:=putL_lenQ k ((1 + ((ln + nlT (blankT kb):Nat):Int),false),tv) m;omega) (fun x hx y hy=>?_) hpt3 fun pt4 hpt4=>?_
  ·rcases putL_memQ hy with rfl | ⟨hy,_⟩
   ·exact hd x hx
   ·exact hm x hx y hy
  ·have:=rest pt4 hpt4;rw [show p + ((blankT kb).size + (Kt.size + (sepT q).size + (V.size + ((endR e).size + R.size))))=p + (blankT kb).size + (Kt.size + (sepT q).size) + V.size + (endR e).size + R.size from by omega] at this;rw [← marks_app];exact this
end
mutual
theorem gv_used {env:List (ByteArray × JV)}:∀ (j:JV) {li:Bool} {path:ByteArray} {ln:Nat} {nl:Bool} {T:ByteArray} {U:List ByteArray} {P:Pls},GV env li path ln j nl T U P→∀ u ∈ U,Bare u∧∃ x ∈ env,x.1=u
 | .int v,_,_,_,_,_,_,_,h=>by
  simp only [GV] at h;intro u hu;rcases h.2.2 with ⟨rfl,_⟩ | ⟨k,rfl,h'⟩
  ·simp at hu
  ·rw [List.mem_singleton.1 hu];exact ⟨h'.2.1,_,h'.1,rfl⟩
 | .num f,_,_,_,_,_,_,_,h=>by
  simp only [GV] at h;intro u hu;rw [h.2.2.1] at hu;simp at hu
 | .tr b,_,_,_,_,_,_,_,h=>by
  simp only [GV] at h;intro u hu;rw [h.2.2.1] at hu;simp at hu
 | .txt t,_,_,_,_,_,_,_,h=>by
  simp only [GV] at h;intro u hu;rcases h.2 with ⟨rfl,_⟩ | ⟨_,k,rfl,h'⟩
  ·simp at hu
  ·rw [List.mem_singleton.1 hu];exact ⟨h'.2.1,_,h'.1,rfl⟩
 | .arr l,_,_,_,_,_,_,_,h=>by
  simp only [GV] at h;obtain ⟨_,_,a,mk,b,Es,R,hl,_,_⟩:=h;exact gl_used l hl
 | .map ks l,_,_,_,_,_,_,_,h=>by
  simp only [GV] at h;obtain ⟨_,a,Es,hE,_,_⟩:=h;exact ge_used l hE
theorem gl_used {env:List (ByteArray × JV)}:∀ (l:List JV) {mk:Nat} {first:Bool} {T:ByteArray} {U:List ByteArray},GL env mk first l T U→∀ u ∈ U,Bare u∧∃ x ∈ env,x.1=u
 | [],_,_,_,_,h=>by
  simp only [GL] at h;intro u hu;rw [h.2] at hu;simp at hu
 | j :: r,_,_,_,_,h=>by
  simp only [GL] at h;obtain ⟨V,R,U1,U2,path,ln,P,hV,hR,rfl,_⟩:=h;intro u hu;rcases List.mem_append.1 hu with hu | hu
  ·exact gv_used j hV u hu
  ·exact gl_used r hR u hu
theorem ge_used {env:List (ByteArray × JV)}:∀ (l:List JV) {path:ByteArray} {ln:Nat} {ks:List ByteArray} {T:ByteArray} {U:List ByteArray} {P:Pls} {envF:List (ByteArray × JV)},GE false env path ln ks l T U P envF→∀ u ∈ U,Bare u∧∃ x ∈ env,x.1=u
 | [],_,_,_,_,_,_,_,h=>by
  simp only [GE] at h;intro u hu;rw [h.2.2.1] at hu;simp at hu
 | j :: r,_,_,_,_,_,_,_,h=>by
  simp only [GE] at h;obtain ⟨env1,k0,ks',kb0,Kt0,q0,nl0,V0,e0,R,Ua,Ub,Pa,Pb,rfl,a1,a2,a3,a4,a5,a6,a7,a8,a9,a10,hr,rfl,hP,hT⟩:=h;obtain rfl:=a9 trivial;intro u hu;rcases List.mem_append.1 hu with hu | hu
  ·exact gv_used j a5 u hu
  ·exact ge_used r hr u hu
end
def GQ (s:ByteArray) (env:List (ByteArray × JV)) (U:List ByteArray) (T:ByteArray) (p:Nat) (kl:List ByteArray) (tis:List TI):Prop :=
 ∀ (K:PK) (S E:Nat) (sk:List Nat) (_:ModeQ K S E sk) (pt:Nat) (m:List (ByteArray × TI)) (Uo:List ByteArray) (fin:List CQ) (ks:List ByteArray) (ls:List Int),(∀ x ∈ env,x.2.isLf→∃ i,(x.1,((i,TV.leaf):TI)) ∈ m)→(m.map (·.1)).Nodup→(∀ u ∈ Uo,u ∉ kl)→m.length≤p + 1→sk.length≤p + 1→ks.length≤p + 1→ls.length≤p + 1→pt ≠ 3 →
  (∀ pt',pt' ≠ 3→FdQ K s (p + T.size) (p + T.size) sk (plainT S) [.map (markMs (Uo ++ U) (putsQ kl tis m))] ks ls pt' fin)→FdQ K s p p sk (plainT S) [.map (markMs Uo m)] ks ls pt fin
theorem reads_gq {s:ByteArray} (hF:HasF) (hss:s.size≤700000):∀ (l:List JV) {kl:List ByteArray} {env envF:List (ByteArray × JV)} {path:ByteArray} {ln:Nat} {T:ByteArray} {U:List ByteArray} {P:Pls} {p:Nat},
  GE true env path ln kl l T U P envF→nlc s p=ln→Has s p T→kl.Nodup→(∀ x ∈ env,∀ k ∈ kl,x.1 ≠ k)→∃ tis:List TI,tis.length=kl.length∧plL path kl (tis.map (·.1)) (tis.map (·.2))=flg P∧(∀ d,(∀ j ∈ l,JVb d j)→∀ t ∈ tis,TVb d t.2)∧(∀ u ∈ U,Bare u)∧GQ s env U T p kl tis
 | [],kl,env,envF,path,ln,T,U,P,p,h,hln,hh,hnd,hdj=>by
  simp only [GE] at h;obtain ⟨rfl,rfl,rfl,rfl,_⟩:=h;refine ⟨[],rfl,by simp [plL,flg],fun d _ t ht=>by simp at ht,fun k hk=>by simp at hk,?_⟩;intro K S E sk M pt m Uo fin ks ls he hm hU b4 b2 b3 b5 hpt rest;have:=rest pt hpt;rw [List.append_nil] at this;exact this
 | j :: r,kl,env,envF,path,ln,T,U,P,p,h,hln,hh,hnd,hdj=>by
  simp only [GE] at h;obtain ⟨env1,k,ks',kb,Kt,q,nl,V,e,R,U1,U2,P1,P2,rfl,hk,hkw,hks,hq,hG,hee,hnl,hd,_,hev,hr,rfl,rfl,rfl⟩:=h;have h0:=hh.left;have hb1:=hh.right;have hK1:=hb1.left;have hb2:=hb1.right;have hV1:=hb2.left;have hb3:=hb2.right;have hE1:=hb3.left;have hR1:=hb3.right;have hle:=hh.le;have l1:=h0.nl;have l2:=hK1.nl;have l3:=hV1.nl;have l4:=hE1.nl;rw [hln] at l1;rw [l1] at l2;have lV:nlc s (p + (blankT kb).size + (Kt ++ sepT q).size)=ln + nlT (blankT kb ++ (Kt ++ sepT q)):=by rw [l2,nlT_app (blankT kb)];omega
  have lR:nlc s (p + (blankT kb).size + (Kt ++ sepT q).size + V.size + (endR e).size)=ln + nlT (blankT kb ++ ((Kt ++ sepT q) ++ (V ++ endR e))):=by
   rw [l4,l3,lV];simp only [nlT_app];omega
  have hnd2:=List.nodup_cons.1 hnd;have hdj2:∀ x ∈ env1,∀ k' ∈ ks',x.1 ≠ k':=fun x hx k' hk'=>by
   rcases hev x hx with h | rfl
   ·exact hdj x h k' (List.mem_cons_of_mem _ hk')
   ·exact fun e=>hnd2.1 (by rw [show k=k' from e];exact hk')
  have hu1:=gv_used j hG;obtain ⟨tv,hp1,hj1,hlf,hQ⟩:=reads_vq hF hss j hG lV hV1;obtain ⟨tis,ht1,ht2,ht3,ht4,hE⟩:=reads_gq hF hss r hr lR hR1 hnd2.2 hdj2;refine ⟨((1 + ((ln + nlT (blankT kb):Nat):Int),false),tv) :: tis,by simp [ht1],?_,fun d hjb t ht=>?_,fun u hu=>?_,?_⟩
  ·simp only [List.map_cons,plL,hp1,ht2];show _=_ :: flg (P1 ++ P2);rw [flg_app]
   congr 3
   omega
  ·rcases List.mem_cons.1 ht with rfl | ht
   ·exact hj1 d (hjb j (List.mem_cons_self ..))
   ·exact ht3 d (fun x hx=>hjb x (List.mem_cons_of_mem _ hx)) t ht
  ·rcases List.mem_append.1 hu with hu | hu
   ·exact (hu1 u hu).1
   ·exact ht4 u hu
  intro K S E sk M pt m Uo fin ks ls he hm hU b4 b2 b3 b5 hpt rest;have hf:=spv_first (gv_sp hF j hG);have hv:=hf.2.vs;have ev:=hV1.at 0 hf.1;have hvl:=hV1.lt 0 hf.1;have het:=hE1.tm (endR_tm e hee);have hz1:=(endR_tm e hee).1;have hE10:=hE1.at 0 hz1;clear hR1 hh hb1 hb2 hb3 l2 l3 l4 lV lR;simp only [bsa] at rest hQ hE hvl ev het hE10 hle hE1;rw [Nat.add_zero] at ev hvl hE10;have heq:EnvQ env [.map (markMs Uo m)]:=by
   have:EnvQ env [.map m]:=fun x hx hl=>by
    obtain ⟨i,hi⟩:=he x hx hl;exact ⟨i,m,rfl,hi,hm⟩
   have:=this.marks Uo;rwa [marks_one] at this
  have hUk:∀ u ∈ Uo ++ U1,u ≠ k:=fun u hu=>by
   rcases List.mem_append.1 hu with hu | hu
   ·exact fun e=>hU u hu (by rw [e];exact List.mem_cons_self ..)
   ·obtain ⟨x,hx,rfl⟩:=(hu1 u hu).2;exact hd x hx
  refine M.blank kb h0 hpt fun pt1 hpt1=>?_
  refine M.key s _ _ _ _ _ _ k Kt q hk hkw hq hK1 hvl (by rw [ev];exact hv.1) (by rw [ev];exact ⟨hv.2.1,hv.2.2.1⟩) (by omega) (by omega) ?_
  rw [l1];refine hQ K _ _ _ [.map (markMs Uo m)] [.map (markMs (Uo ++ U1) (putL k ((1 + ((ln + nlT (blankT kb):Nat):Int),false),tv) m))] _ _ ks _ ls heq het.1 het.2 (fun h=>by
    rw [hE10,hnl h]
    rfl) (by simp) (by simp) (by omega) (by simp only [List.length_append,List.length_cons,List.length_nil];omega) (by simp only [List.length_append,List.length_cons,List.length_nil];omega)
   (fun L=>by
    rw [marks_one,← markMs_app,← putL_markMs _ _ _ hUk];exact .map _ [] ks k ls _ rfl rfl rfl (by omega) (by rw [markMs_len];omega) (by omega) (by omega)) fun pt2 hpt2=>?_
  refine M.ends e hee hE1 hpt2 fun pt3 hpt3=>?_
  refine hE K S E sk M _ _ (Uo ++ U1) _ _ _ (fun x hx hl=>?_) (putL_nodup hm) (fun u hu=>?_) (by have:=putL_lenQ k ((1 + ((ln + nlT (blankT kb):Nat):Int),false),tv) m;omega) (by omega) (by omega) (by omega) hpt3 fun pt4 hpt4=>?_
  ·rcases hev x hx with h | rfl
   ·obtain ⟨i,hi⟩:=he x h hl;exact ⟨i,putL_keep hi (hd x h)⟩
   ·exact ⟨_,by rw [← hlf hl];exact putL_self⟩
  ·rcases List.mem_append.1 hu with hu | hu
   ·exact fun h=>hU u hu (List.mem_cons_of_mem _ h)
   ·obtain ⟨x,hx,rfl⟩:=(hu1 u hu).2;exact fun h=>hdj x hx _ (List.mem_cons_of_mem _ h) rfl
  ·have:=rest pt4 hpt4;rw [show p + ((blankT kb).size + (Kt.size + (sepT q).size + (V.size + ((endR e).size + R.size))))=p + (blankT kb).size + (Kt.size + (sepT q).size) + V.size + (endR e).size + R.size from by omega] at this;rw [List.append_assoc];exact this
section
variable {l:List JV} {kl:List ByteArray} {T:ByteArray} {U:List ByteArray} {P:Pls} {envF:List (ByteArray × JV)} {path:ByteArray}
def Told (T:ByteArray) (path:ByteArray) (kl:List ByteArray) (l:List JV) (U:List ByteArray) (P:Pls):Prop :=
 ∃ tis:List TI,tis.length=kl.length∧plL path kl (tis.map (·.1)) (tis.map (·.2))=flg P∧(∀ d,(∀ j ∈ l,JVb d j)→∀ t ∈ tis,TVb d t.2)∧(∀ u ∈ U,Bare u)∧ReadQ T (markMs U (kl.zip tis))
theorem readQ_top (hF:HasF) (h:GE true [] path 0 kl l T U P envF) (hs:T.size≤700000) (hp:kl.Pairwise (fun x y=>bytesBefore y.data.toList x.data.toList=false∧x ≠ y)):Told T path kl l U P:=by
 have hnd:kl.Nodup:=hp.imp fun h=>h.2
 obtain ⟨tis,h1,h2,h3,h4,h5⟩:=reads_gq hF hs l h (p:=0) rfl (Has.all T) hnd (by simp);refine ⟨tis,h1,h2,h3,h4,readQ_of (by omega) (ge_asc l h) fun K=>?_⟩;have hz:=putsQ_asc kl tis [] h1 hp (by simp);rw [List.nil_append] at hz;refine h5 K 60 94 [] modeQ_top 0 [] [] _ [] [] (by simp) (by simp) (by simp) (by simp) (by simp) (by simp) (by simp) (by decide) fun pt hpt=>?_
 rw [Nat.zero_add,hz,List.nil_append];exact FdQ.eof (ld_top_eof (Nat.le_refl _) rfl) hpt
theorem readQ_brace (hF:HasF) (h:GE true [] path 0 kl l T U P envF) (hs:(⟨#[123]⟩ ++ (T ++ ⟨#[125]⟩):ByteArray).size≤700000) (hp:kl.Pairwise (fun x y=>bytesBefore y.data.toList x.data.toList=false∧x ≠ y)):Told (⟨#[123]⟩ ++ (T ++ ⟨#[125]⟩)) path kl l U P:=by
 have hnd:kl.Nodup:=hp.imp fun h=>h.2
 have hasc:=(Asc.one 123 (by decide)).app ((ge_asc l h).app (Asc.one 125 (by decide)));obtain ⟨s,hs0⟩:∃ s:ByteArray,s=⟨#[123]⟩ ++ (T ++ ⟨#[125]⟩):=⟨_,rfl⟩;have hh:Has s 0 (⟨#[123]⟩ ++ (T ++ ⟨#[125]⟩)):=by rw [← hs0];exact Has.all s
 have hsz:s.size=1 + (T.size + 1):=by rw [hs0,bsa,bsa];rfl
 rw [← hs0] at hs hasc ⊢;have e0:byteAt s 0=123:=hh.left.at 0 (by decide);have hr:=hh.right;have z1:(⟨#[123]⟩:ByteArray).size=1:=rfl;rw [z1] at hr;have hT:=hr.left;have hE:=hr.right;have e1:byteAt s (0 + 1 + T.size)=125:=hE.at 0 (by decide);have hl:nlc s (0 + 1)=0:=by rw [nlc_succ _ _ (by omega),e0];rfl
 obtain ⟨tis,h1,h2,h3,h4,h5⟩:=reads_gq hF hs l h hl hT hnd (by simp);refine ⟨tis,h1,h2,h3,h4,readQ_of (by omega) hasc fun K=>?_⟩;have hz:=putsQ_asc kl tis [] h1 hp (by simp);rw [List.nil_append] at hz;refine FdQ.lead ((ld_top_brace (by omega) (by simp) e0).trans (ld_skip 89)) ?_;refine h5 K 89 129 [60] modeQ_blk 0 [] [] _ [] [] (by simp) (by simp) (by simp) (by simp) (by simp) (by simp) (by simp) (by decide) fun pt hpt=>?_
 refine FdQ.lead (ld_bs_end (by omega) e1 [] 60 rfl (by simp)) ?_;rw [hz,List.nil_append];exact FdQ.eof (ld_top_eof (by omega) rfl) hpt
def fusd (U:List ByteArray) (P:Pls):List (ByteArray × Int × Bool):=P.map fun x=>(x.1,((x.2:Nat):Int),U.any fun u=>decide (x.1=sla ⟨#[]⟩ u))
mutual
theorem plT_path:∀ (j:TV) (path:ByteArray),∀ x ∈ plT path j,∃ r,x.1=path ++ (⟨#[47]⟩ ++ r)
 | .leaf,path,x,h=>by simp [plT] at h
 | .map ks fs l,path,x,h=>by
  simp only [plT] at h;exact plL_path l path ks fs x h
theorem plL_path:∀ (l:List TV) (path:ByteArray) (ks:List ByteArray) (fs:List (Int × Bool)),∀ x ∈ plL path ks fs l,∃ r,x.1=path ++ (⟨#[47]⟩ ++ r)
 | [],path,ks,fs,x,h=>by cases ks <;> cases fs <;> simp [plL] at h
 | j :: l,path,[],fs,x,h=>by cases fs <;> simp [plL] at h
 | j :: l,path,k :: ks,[],x,h=>by simp [plL] at h
 | j :: l,path,k :: ks,f :: fs,x,h=>by
  simp only [plL] at h;rcases List.mem_cons.1 h with rfl | h
  ·exact ⟨k,by show path ++ ⟨#[47]⟩ ++ k=_;rw [ByteArray.append_assoc]⟩
  ·rcases List.mem_append.1 h with h | h
   ·obtain ⟨r,hr⟩:=plT_path j (sla path k) x h;refine ⟨k ++ (⟨#[47]⟩ ++ r),?_⟩;rw [hr];unfold sla;simp only [ByteArray.append_assoc]
   ·exact plL_path l path ks fs x h
end
theorem app_inj {a b c:ByteArray} (h:a ++ b=a ++ c):b=c:=by
 obtain ⟨⟨a⟩⟩:=a;obtain ⟨⟨b⟩⟩:=b;obtain ⟨⟨c⟩⟩:=c;have h2:((⟨⟨a⟩⟩ ++ ⟨⟨b⟩⟩:ByteArray)).data.toList=((⟨⟨a⟩⟩ ++ ⟨⟨c⟩⟩:ByteArray)).data.toList:=by rw [h]
 simp only [ByteArray.data_append,Array.toList_append] at h2;rw [List.append_cancel_left h2]
theorem sla_inj {a b:ByteArray}:sla ⟨#[]⟩ a=sla ⟨#[]⟩ b ↔ a=b:=by
 refine ⟨fun h=>app_inj h,fun h=>by rw [h]⟩
theorem not_used {U:List ByteArray} (hU:∀ u ∈ U,Bare u) (k r:ByteArray):(U.any fun u=>decide (sla ⟨#[]⟩ k ++ (⟨#[47]⟩ ++ r)=sla ⟨#[]⟩ u))=false:=by
 rw [List.any_eq_false];intro u hu e;have e:=of_decide_eq_true e;unfold sla at e;rw [ByteArray.append_assoc] at e;have e:=app_inj e;have hb:=(hU u hu).bytes k.size (by rw [← e,bsa,bsa];show k.size < k.size + (1 + r.size);omega);rw [← e] at hb;unfold bareB at hb;have h47:=byteAt_app_right k (⟨#[47]⟩ ++ r) 0;rw [Nat.add_zero,byteAt_app_left (⟨#[47]⟩:ByteArray) r 0 (by decide)] at h47;rw [h47] at hb;unfold letB goodB at hb;have h:byteAt (⟨#[47]⟩:ByteArray) 0=47:=rfl;rw [h] at hb;omega
theorem plL_used {U:List ByteArray} (hU:∀ u ∈ U,Bare u):∀ (kl:List ByteArray) (tis:List TI),tis.length=kl.length →
  plL ⟨#[]⟩ kl ((kl.zip tis).map fun (x:ByteArray × TI)=>(x.2.1.1,x.2.1.2 || inU U x.1)) (tis.map (·.2))=(plL ⟨#[]⟩ kl (tis.map (·.1)) (tis.map (·.2))).map fun x=>(x.1,x.2.1,x.2.2 || U.any fun u=>decide (x.1=sla ⟨#[]⟩ u))
 | [],[],_=>by simp [plL]
 | [],_ :: _,h=>by simp at h
 | _ :: _,[],h=>by simp at h
 | k :: kl,t :: tis,h=>by
  have ih:=plL_used hU kl tis (by simpa using h);simp only [List.zip_cons_cons,List.map_cons,plL,List.map_append,ih]
  congr 1
  ·congr 3
   unfold inU
   congr 1
   funext u
   simp only [sla_inj]
  ·congr 1
   symm
   refine (List.map_congr_left fun x hx=>?_).trans (List.map_id _);obtain ⟨r,hr⟩:=plT_path t.2 _ x hx;rw [hr,not_used hU k r,Bool.or_false,← hr];rfl
theorem told_tv (h:Told T ⟨#[]⟩ kl l U P) {d:Nat} (hb:JVb (d + 1) (.map kl l)):∃ m,ReadQ T m∧plT ⟨#[]⟩ (CQ.map m).tv=fusd U P∧TVb (d + 1) (CQ.map m).tv:=by
 obtain ⟨tis,h1,h2,h3,h4,h5⟩:=h;refine ⟨_,h5,?_,?_⟩
 ·have:(CQ.map (markMs U (kl.zip tis))).tv=.map kl ((kl.zip tis).map fun (x:ByteArray × TI)=>(x.2.1.1,x.2.1.2 || inU U x.1)) (tis.map (·.2)):=by
   simp only [CQ.tv];rw [markMs_keys,List.map_fst_zip (by omega)]
   congr 1
   ·rw [markMs_map,List.map_map];rfl
   ·rw [markMs_map,List.map_map,← List.map_snd_zip (l₁:=kl) (l₂:=tis) (by omega),List.map_map,List.map_snd_zip (by omega)];rfl
  rw [this];simp only [plT];rw [plL_used h4 kl tis h1,h2];unfold flg fusd;rw [List.map_map];refine List.map_congr_left fun x _=>?_
  simp
 ·simp only [JVb] at hb;simp only [CQ.tv,TVb];rw [markMs_keys,List.map_fst_zip (by omega)];refine ⟨hb.1,?_,?_,hb.2.1,fun t ht=>?_⟩
  ·rw [List.length_map,markMs_len,List.length_zip];omega
  ·rw [List.length_map,markMs_len,List.length_zip];omega
  ·rw [markMs_map,List.map_map] at ht;obtain ⟨y,hy,rfl⟩:=List.mem_map.1 ht;exact h3 d hb.2.2 y.2 (List.of_mem_zip hy).2
end
def usedF (U:List ByteArray) (x:ByteArray × Nat):Bool:=U.any fun u=>decide (x.1=sla ⟨#[]⟩ u)
def wantO (U:List ByteArray) (P:Pls):List PE:=P.map fun x=>(x.1,((x.2:Nat):Int),0,usedF U x)
theorem wantO_tri (U:List ByteArray) (P:Pls):(wantO U P).map triO=fusd U P:=by
 unfold wantO fusd;rw [List.map_map];rfl
def UsAt (U:List ByteArray) (P:Pls) (us:List Bool) (q n:Nat):Prop :=
 us.length=P.length∧∀ (i:Nat) (x:ByteArray × Nat),P[i]?=some x→us[i]?=some (if i < q then usedF U x else if i=q then usedF (U.take n) x else false)
theorem eqQ (a b:ByteArray):(a.toList == b.toList)=decide (a=b):=by
 rw [Lib.toList_data,Lib.toList_data];by_cases e:a=b
 ·subst e;simp
 ·rw [bytes_ne e];simp [e]
theorem eq_sla (a k:ByteArray):(a.toList == ((⟨#[47]⟩:ByteArray) ++ k).toList)=(false || decide (a=sla ⟨#[]⟩ k)):=by
 rw [eqQ,Bool.false_or];unfold sla;rw [empty_app]
section
variable {lab lab1:Lab} {w w1:World}
def PlW (U:List ByteArray) (P:Pls) (q n:Nat) (lab:Lab) (w:World) (pc:Nat) (A:Option Addr) (c:Nat):Prop:=∃ us,UsAt U P us q n∧Cl 47 lab w pc #[.slice A P.length c] 31∧Rw 0 46 lab w 60 4 (.slice A P.length c) P.length (flatU P us)
theorem PlsAt.pw {pc:Nat} {P:Pls} (h:PlsAt lab w pc P) (U:List ByteArray):∃ A c,PlW U P 0 0 lab w pc A c:=by
 obtain ⟨pv,h1,h2⟩:=h;obtain ⟨A,c,rfl⟩:=h2.shape;rw [flatU_of] at h2;refine ⟨A,c,_,⟨by simp,fun i x hx=>?_⟩,h1,h2⟩;have hl:=(List.getElem?_eq_some_iff.1 hx).1;rw [if_neg (Nat.not_lt_zero _),List.getElem?_replicate,if_pos hl]
 split <;> rfl
theorem PlW.mv {U:List ByteArray} {q n:Nat} {M:Nat→Prop} {pc:Nat} {P:Pls} {A:Option Addr} {c:Nat} (h:PlW U P q n lab w pc A c) (m:Mv M w lab w1 lab1) (h46:¬ M 46) (h47:¬ M 47):PlW U P q n lab1 w1 pc A c:=by
 obtain ⟨us,h0,h1,h2⟩:=h;exact ⟨us,h0,h1.mv m h47,h2.mv m h46⟩
theorem usedF_take {U:List ByteArray} {n:Nat} {k:ByteArray} (h:U[n]?=some k) (x:ByteArray × Nat):usedF (U.take (n + 1)) x=(usedF (U.take n) x || decide (x.1=sla ⟨#[]⟩ k)):=by
 unfold usedF;rw [List.take_add_one,h,List.any_append];simp
theorem PlW.open {U:List ByteArray} {n pc q:Nat} {P:Pls} {x:ByteArray × Nat} {A:Option Addr} {c:Nat} (h:PlW U P q n lab w pc A c) (hq:P[q]?=some x):∃ g u,A=some ⟨g,0,none⟩∧w.cell? ⟨pc,0,none⟩=some (.slice (some ⟨g,0,none⟩) P.length c)∧w.frozen? ⟨pc,0,none⟩=false∧w.cell? ⟨g,q * 4,none⟩=some (.string x.1)∧w.cell? ⟨g,q * 4 + 1,none⟩=some (.int .i64 (x.2:Int))∧w.cell? ⟨g,q * 4 + 2,none⟩=some (.int .i64 0)∧w.cell? ⟨g,q * 4 + 3,none⟩=some (.bool u)∧w.frozen? ⟨g,q * 4 + 3,none⟩=false ∧
  ∀ k,U[n]?=some k→∀ b,b=(u || decide (x.1=sla ⟨#[]⟩ k))→PlW U P q (n + 1) lab (w.setCell ⟨g,q * 4 + 3,none⟩ (.bool b)) pc A c∧Mv (·=46) w lab (w.setCell ⟨g,q * 4 + 3,none⟩ (.bool b)) lab:=by
 obtain ⟨us,⟨h0,h3⟩,h1,h2⟩:=h;have hu:=h3 q x hq;rw [if_neg (Nat.lt_irrefl _),if_pos rfl] at hu;obtain ⟨u,he⟩:∃ u,u=usedF (U.take n) x:=⟨_,rfl⟩;rw [← he] at hu;obtain ⟨e0,e1,e2,e3⟩:=flatU_get hq hu;obtain ⟨g,rfl,hl,r0,_⟩:=rw_at h2 e0;obtain ⟨g1,hg1,_,r1,_⟩:=rw_at h2 e1;obtain ⟨g2,hg2,_,r2,_⟩:=rw_at h2 e2;obtain ⟨g3,hg3,_,r3,f3⟩:=rw_at h2 e3
 cases hg1;cases hg2;cases hg3
 refine ⟨g,u,rfl,h1.cell 0,h1.free 0,r0,r1,r2,r3,f3,fun k hk b hb=>?_⟩;have m:Mv (·=46) w lab (w.setCell ⟨g,q * 4 + 3,none⟩ (.bool b)) lab:=Mv.setCell _ _ _ _ hl;refine ⟨⟨us.set q b,⟨by simpa using h0,fun i y hy=>?_⟩,h1.mv m (by decide),?_⟩,m⟩
 ·by_cases e:i=q
  ·subst e;rw [hq] at hy;cases hy;rw [if_neg (Nat.lt_irrefl _),if_pos rfl,usedF_take hk,← he,← hb,List.getElem?_set_self (by rw [h0];exact (List.getElem?_eq_some_iff.1 hq).1)]
  ·rw [List.getElem?_set_ne (Ne.symm e),h3 i y hy,if_neg e,if_neg e]
 ·rw [← flatU_set];exact rw_setAt h2
theorem PlW.next {U:List ByteArray} {n pc q:Nat} {P:Pls} {A:Option Addr} {c:Nat} (h:PlW U P q n lab w pc A c) (hn:n=U.length):PlW U P (q + 1) 0 lab w pc A c:=by
 obtain ⟨us,⟨h0,h3⟩,h1,h2⟩:=h;refine ⟨us,⟨h0,fun i x hx=>?_⟩,h1,h2⟩;rw [h3 i x hx];rcases Nat.lt_trichotomy i q with h | h | h
 ·rw [if_pos h,if_pos (by omega)]
 ·subst h;rw [if_neg (Nat.lt_irrefl _),if_pos rfl,if_pos (by omega),hn,List.take_length]
 ·rw [if_neg (by omega),if_neg (by omega),if_neg (by omega)]
  split <;> rfl
theorem flatU_want (U:List ByteArray):∀ (P:Pls),flatU P (P.map (usedF U))=flatO (wantO U P)
 | []=>rfl
 | x :: P=>by
  have ih:=flatU_want U P;unfold wantO at ih ⊢;simp only [List.map_cons,flatU,flatO,ih];rfl
theorem PlW.fin {U:List ByteArray} {n pc q:Nat} {P:Pls} {A:Option Addr} {c:Nat} (h:PlW U P q n lab w pc A c) (hq:P.length≤q):Rw 0 46 lab w 60 4 (.slice A P.length c) P.length (flatO (wantO U P)):=by
 obtain ⟨us,⟨h0,h3⟩,h1,h2⟩:=h;have:us=P.map (usedF U):=by
  refine List.ext_getElem? fun i=>?_
  rw [List.getElem?_map]
  cases hx:P[i]? with
  | none =>
   rw [List.getElem?_eq_none_iff] at hx;show us[i]?=none;rw [List.getElem?_eq_none_iff];omega
  | some x =>
   have hl:=(List.getElem?_eq_some_iff.1 hx).1;rw [h3 i x hx,if_pos (by omega)];rfl
 rw [← flatU_want,← this];exact h2
end
end Go.Cf
