/-
  Texts joined: Rn Wi Ix Rp Iy Iz Lf Iv Rs Wh Va Wl Rw Er18 En Vb Nv Pu Vf Tr In Wt Cw Ik.
-/
import Derived.Test.YtackodbeohaidaaGreatDoorZq03
import Derived.Test.YtackodbeohaidaaGreatDoorZq04
import Derived.Test.YtackodbeohaidaaGreatDoorZq06
import Derived.Test.YtackodbeohaidaaGreatDoorZq07
import Derived.Test.YtackodbeohaidaaGreatDoorZq08
import Derived.Test.YtackodbeohaidaaGreatDoorZq09
import Derived.Deep.RegionLaw
namespace Go.Cf
open Go.RowKit Go.Conc Go.Proofs
section
variable {s:ByteArray} {p st:Nat} {stk sk:List Nat} {L:LX} {n:Nat}
theorem ld_num_tm (hp:p < s.size) (hst:st≤p) (e:tmB (byteAt s p)) (sk:List Nat) (n:Nat) (hk:stk=sk ++ [n]) (hl:sk.length≤1000000):Emits s p st stk (plainT 199) 7 (s.extract st p) (1 + (nlc s p:Nat)) p p sk (plainT n):=by
 rcases e with e | e | e | e | e
 ·exact ld_num_nl hp hst e sk n hk hl
 ·exact ld_num_ws hp hst e sk n hk hl
 ·exact ld_num_semi hp hst e sk n hk hl
 ·exact ld_num_comma hp hst e sk n hk hl
 ·exact ld_num_brace hp hst e sk n hk hl
theorem ld_suf_tm (hp:p < s.size) (hst:st≤p) (e:tmB (byteAt s p)) (sk:List Nat) (n:Nat) (hk:stk=sk ++ [n]) (hl:sk.length≤1000000):Emits s p st stk (plainT 212) 7 (s.extract st p) (1 + (nlc s p:Nat)) p p sk (plainT n):=by
 rcases e with e | e | e | e | e
 ·exact ld_suf_nl hp hst e sk n hk hl
 ·exact ld_suf_ws hp hst e sk n hk hl
 ·exact ld_suf_semi hp hst e sk n hk hl
 ·exact ld_suf_comma hp hst e sk n hk hl
 ·exact ld_suf_brace hp hst e sk n hk hl
theorem ld_neg_tm (hp:p < s.size) (hst:st≤p) (e:tmB (byteAt s p)) (sk:List Nat) (n:Nat) (hk:stk=sk ++ [n]) (hl:sk.length≤1000000):Emits s p st stk (plainT 198) 7 (s.extract st p) (1 + (nlc s p:Nat)) p p sk (plainT n):=by
 refine ld_neg_end hp hst ?_ ?_ ?_ sk n hk hl
 ·rcases e with e | e | e | e | e <;> rw [e] <;> rfl
 ·rcases e with e | e | e | e | e <;> rw [e] <;> rfl
 ·rcases e with e | e | e | e | e <;> rw [e] <;> decide
theorem rd_tail {f:Nat} {sf:ByteArray} {u:Int} (hsf:Sfx sf u) (h:Has s p sf) (hlt:p + sf.size < s.size) (hst:st≤p) (he:tmB (byteAt s (p + sf.size)))
  (hend:sf=⟨#[]⟩→Emits s p st stk (plainT f) 7 (s.extract st p) (1 + (nlc s p:Nat)) p p sk (plainT n))
  (hsuf:p < s.size→isDig (byteAt s p)=false→isSuf (byteAt s p)=true→byteAt s p ≠ 45→byteAt s p ≠ 46→Leads s p st stk (plainT f) (p + 1) st stk (plainT 212))
  (hk:stk=sk ++ [n]) (hl:sk.length≤1000000):∃ line,Emits s p st stk (plainT f) 7 (s.extract st (p + sf.size)) line (p + sf.size) (p + sf.size) sk (plainT n):=by
 rcases hsf.item with ⟨rfl,_⟩ | hI
 ·exact ⟨_,hend rfl⟩
 ·have h0:=h.at 0 hI.s0;rw [Nat.add_zero] at h0;have hs0:=hI.s0;have l0:=hsuf (by omega) (by rw [h0];exact hI.d) (by rw [h0];exact hI.suf) (by rw [h0];exact hI.d2) (by rw [h0];intro e;have:=hI.suf;rw [e] at this;exact absurd this (by decide))
  have l1:=leads_run (s:=s) (p:=p + 1) (st:=st) (stk:=stk) (f:=212) (Q:=fun c=>c=98 ∨ c=66 ∨ c=105) (fun p hp hq=>by
   rcases hq with hq | hq | hq
   ·exact ld_suf_b hp hq
   ·exact ld_suf_B hp hq
   ·exact ld_suf_i hp hq) (sf.size - 1) (by omega) (fun i hi=>by
   have:=h.at (i + 1) (by omega);rw [show p + 1 + i=p + (i + 1) from by omega,this]
   exact hI.rest (i + 1) (by omega) (by omega))
  rw [show p + 1 + (sf.size - 1)=p + sf.size from by omega] at l1;exact ⟨_,(l0.trans l1).emits (ld_suf_tm hlt (by omega) he sk n hk hl)⟩
theorem rd_int {v:Int} {T:ByteArray} (hsp:IntSp v T) (h:Has s p T) (hlt:p + T.size < s.size) (he:tmB (byteAt s (p + T.size))) (hk:stk=sk ++ [n]) (hl:sk.length≤1000000) :
  ∃ line,Emits s p p stk (plainT 174) 7 T line (p + T.size) (p + T.size) sk (plainT n):=by
 obtain ⟨sg,m,sf,u,rfl,hsf,hn,hb⟩:=hsp;have hu:=mulB_pos hsf;have hmu:(m:Int)≤m * u:=by
  have:=Int.mul_le_mul_of_nonneg_left hu (Int.natCast_nonneg m);omega
 have hz:=decB_small m (by omega);have hd:=decB_dig m;have hall:=h.ext;have h1:=h.left.left;have h2:=h.left.right;have h3:=h.right;have hsz:(sg ++ decB m ++ sf).size=sg.size + (decB m).size + sf.size:=by rw [bsa,bsa]
 rw [bsa,← Nat.add_assoc] at h3;rw [hsz] at hlt he hall ⊢;rw [show p + (sg.size + (decB m).size + sf.size)=p + sg.size + (decB m).size + sf.size from by omega] at hlt he hall ⊢;have hd0:=h2.at 0 hz.1;rw [Nat.add_zero] at hd0;have hdd0:=hd 0 hz.1;rw [← hd0] at hdd0;rcases hn with ⟨rfl,_⟩ | ⟨rfl,_⟩
 ·have hs0:(⟨#[]⟩:ByteArray).size=0:=rfl;rw [hs0,Nat.add_zero] at h2 h3 hlt he hall hdd0 ⊢;have l0:Leads s p p stk (plainT 174) p p stk (plainT 186):=ld_val_dig (by omega) (by simp [isWS];omega) (dig_true hdd0) hdd0;have l1:Leads s p p stk (plainT 186) (p + 1) p stk (plainT 199):=ld_num_start (by omega) (dig_true hdd0)
  have l2:=leads_digits (s:=s) (p:=p + 1) (st:=p) (stk:=stk) ((decB m).size - 1) (by omega) (fun i hi=>by
   rw [show p + 1 + i=p + (i + 1) from by omega,h2.at (i + 1) (by omega)]
   exact hd (i + 1) (by omega))
  rw [show p + 1 + ((decB m).size - 1)=p + (decB m).size from by omega] at l2;obtain ⟨line,E⟩:=rd_tail (st:=p) (f:=199) (stk:=stk) hsf h3 hlt (by omega) he (fun e=>ld_num_tm (by omega) (by omega) (by subst e;exact he) sk n hk hl) (fun h1 h2 h3 h4 h5=>ld_num_suf h1 h2 h3 h4 h5) hk hl;rw [hall] at E;exact ⟨line,(l0.trans (l1.trans l2)).emits E⟩
 ·have hs1:(⟨#[45]⟩:ByteArray).size=1:=rfl;have e45:byteAt s p=45:=h1.at 0 (by decide);rw [hs1] at h2 h3 hlt he hall hdd0 ⊢;have l0:Leads s p p stk (plainT 174) (p + 1) p stk (plainT 184):=ld_val_neg (by omega) e45;have l1:Leads s (p + 1) p stk (plainT 184) (p + 1 + 1) p stk (plainT 198):=ld_neg_start (by omega) (dig_true hdd0)
  have l2:=leads_run (s:=s) (p:=p + 1 + 1) (st:=p) (stk:=stk) (f:=198) (Q:=fun c=>isDig c=true) (fun p hp hq=>ld_neg_dig hp hq) ((decB m).size - 1) (by omega) (fun i hi=>by
   rw [show p + 1 + 1 + i=p + 1 + (i + 1) from by omega,h2.at (i + 1) (by omega)]
   exact dig_true (hd (i + 1) (by omega)))
  rw [show p + 1 + 1 + ((decB m).size - 1)=p + 1 + (decB m).size from by omega] at l2;obtain ⟨line,E⟩:=rd_tail (st:=p) (f:=198) (stk:=stk) hsf h3 hlt (by omega) he (fun e=>ld_neg_tm (by omega) (by omega) (by subst e;exact he) sk n hk hl) (fun h1 h2 h3 _ h5=>ld_neg_suf h1 h2 h3 h5) hk hl;rw [hall] at E;exact ⟨line,(l0.trans (l1.trans l2)).emits E⟩
end
section
variable {p ev:Nat} {A A':LW} {x:It} {lab labg labg':Lab} {w w':World}
end
section
variable {K:PK} {L:LX} {ks:List ByteArray} {lab:Lab} {w:World} {n:Nat} {its:List Value} {k:ByteArray}
end
attribute [local go_sem ↓] mk75z mk61
section
variable {B:Nat} {lab lab1:Lab} {w w1:World} {K:PK} {X X':PX} {M:Nat→Prop}
end
end Go.Cf
namespace Go.Cf
open Go.RowKit Go.Conc Go.Proofs
section
variable {K:PK} {s:ByteArray} {p st:Nat} {stk sk:List Nat} {cx cx1 fin:List CJ} {ks ks1:List ByteArray} {pt n:Nat}
def vsB (c:Nat):Prop:=isSp c=false∧isSep c=false∧c ≠ 0
theorem ld_sep (j:Nat) (hj:j < 6) (h:Has s p (sepT j)) (hlt:p + (sepT j).size < s.size) (hv:vsB (byteAt s (p + (sepT j).size))):Leads s p p stk (plainT 163) (p + (sepT j).size) (p + (sepT j).size) stk (plainT 174):=by
 obtain ⟨v1,v2,v3⟩:=hv
 match j,hj with
 | 0,_ =>
  have hle:p + 3 < s.size:=hlt;have b0:byteAt s p=32:=h.at 0 (by decide);have b1:byteAt s (p + 1)=61:=h.at 1 (by decide);have b2:byteAt s (p + 2)=32:=h.at 2 (by decide);exact (((ld_ke_sp (by omega) (by rw [b0];rfl)).trans (ld_skip 163)).trans ((ld_ke_sep (by omega) (by rw [b1];rfl) (by rw [b1];rfl)).trans (ld_skip 174))).trans ((ld_val_ws (by omega) (by rw [show p + 1 + 1=p + 2 from rfl,b2];rfl)).trans (ld_skip 174))
 | 1,_ =>
  have hle:p + 1 < s.size:=hlt;have b0:byteAt s p=61:=h.at 0 (by decide);exact (ld_ke_sep (by omega) (by rw [b0];rfl) (by rw [b0];rfl)).trans (ld_skip 174)
 | 2,_ =>
  have hle:p + 2 < s.size:=hlt;have b0:byteAt s p=58:=h.at 0 (by decide);have b1:byteAt s (p + 1)=32:=h.at 1 (by decide);exact ((ld_ke_sep (by omega) (by rw [b0];rfl) (by rw [b0];rfl)).trans (ld_skip 174)).trans ((ld_val_ws (by omega) (by rw [b1];rfl)).trans (ld_skip 174))
 | 3,_ =>
  have hle:p + 1 < s.size:=hlt;have b0:byteAt s p=58:=h.at 0 (by decide);exact (ld_ke_sep (by omega) (by rw [b0];rfl) (by rw [b0];rfl)).trans (ld_skip 174)
 | 4,_ =>
  have hle:p + 1 < s.size:=hlt;have b0:byteAt s p=32:=h.at 0 (by decide);exact ((ld_ke_sp (by omega) (by rw [b0];rfl)).trans (ld_skip 163)).trans (ld_ke_other hle v1 v2 v3)
 | 5,_ =>
  have hle:p + 3 < s.size:=hlt;have b0:byteAt s p=32:=h.at 0 (by decide);have b1:byteAt s (p + 1)=32:=h.at 1 (by decide);have b2:byteAt s (p + 2)=32:=h.at 2 (by decide);exact (((ld_ke_sp (by omega) (by rw [b0];rfl)).trans (ld_skip 163)).trans ((ld_ke_sp (by omega) (by rw [b1];rfl)).trans (ld_skip 163))).trans (((ld_ke_sp (by omega) (by rw [show p + 1 + 1=p + 2 from rfl,b2];rfl)).trans (ld_skip 163)).trans (ld_ke_other hle v1 v2 v3))
theorem sep_first (j:Nat) (hj:j < 6):0 < (sepT j).size∧(isSp (byteAt (sepT j) 0)=true ∨ (isSp (byteAt (sepT j) 0)=false∧isSep (byteAt (sepT j) 0)=true)):=by
 match j,hj with
 | 0,_=>decide
 | 1,_=>decide
 | 2,_=>decide
 | 3,_=>decide
 | 4,_=>decide
 | 5,_=>decide
end
section
variable {B:Nat} {lab lab1:Lab} {w w1:World} {K:PK} {X X':PX} {M:Nat→Prop} {L:LX} {c2:CJ} {cs:List CJ} {ks:List ByteArray}
end
section
variable {B:Nat} {lab lab1:Lab} {w w1:World} {K:PK} {X X':PX} {M:Nat→Prop} {L:LX} {c2:CJ} {cs:List CJ} {ks:List ByteArray}
end
end Go.Cf
namespace Go.Cf
open Go.RowKit Go.Conc Go.Proofs Go.Maps
theorem nt_61_61b (u:Value) (w:World):(Instr.typeAssert (.iface 61 u) 20 61 true).run Tryz.prog w=.ok (.tuple #[u,.bool true]) w:=by kernel_rfl
theorem nt_75_61b (u:Value) (w:World):(Instr.typeAssert (.iface 75 u) 20 61 true).run Tryz.prog w=.ok (.tuple #[.map none,.bool false]) w:=by kernel_rfl
attribute [local go_sem ↓] nt_61_61b nt_75_61b
theorem any_find {α:Type} (p:α→Bool):∀ l:List α,l.any p=(l.find? p).isSome
 | []=>rfl
 | a :: l=>by
  rw [List.any_cons,List.find?_cons]
  cases h:p a with
  | true=>rfl
  | false=>exact (Bool.false_or _).trans (any_find p l)
section
variable {B ℓ b:Nat} {lab:Lab} {w:World} {K:PK} {X:PX} {t:List Ent} {s:ByteArray}
theorem ent_look (h:Mp ℓ lab w b t) (hs:s.size≤maxLen):(∃ x,t.find? (fun x=>x.1.data.toList == s.data.toList)=some x∧(Instr.lookup 61 (.map (some b)) (.string s) true).run Tryz.prog w=.ok (.tuple #[x.2.2,.bool true]) w) ∨
  (t.find? (fun x=>x.1.data.toList == s.data.toList)=none∧(Instr.lookup 61 (.map (some b)) (.string s) true).run Tryz.prog w=.ok (.tuple #[.nilIface,.bool false]) w):=by
 have hkey:=WideMaps.keyOf_string_mk (P:=Tryz.prog) Tryz.underlying9 hs;obtain ⟨v,ps,hr,hv⟩:=h.1.look_ok (Maps.string_keyed Tryz.underlying9) Tryz.underlying61 (zero20 w) (zd:=.held .nilIface) (zp:=[]) rfl hkey;have hf:(t.map fun x=>((Lit.string x.1.data.toList,DataW.held x.2.2):Lit × DataW Value)).find? (fun p=>p.1.sameKey (.string s.data.toList))=(t.find? (fun x=>x.1.data.toList == s.data.toList)).map fun x=>((Lit.string x.1.data.toList,DataW.held x.2.2):Lit × DataW Value):=by
  rw [List.find?_map];rfl
 have hv':some (DataW.held v,([]:List MemPlace))=some ((entD t).atKey (.string s.data.toList) (.held .nilIface),ps):=hv;have hva:DataW.held v=(entD t).atKey (.string s.data.toList) (.held .nilIface):=(Prod.mk.inj (Option.some.inj hv')).1;unfold entD DataW.atKey at hva;simp only at hva;rw [hf] at hva;have hh:Maps.has (entD t) (.string s.data.toList)=(t.find? (fun x=>x.1.data.toList == s.data.toList)).isSome:=by
  show List.any _ _=_
  rw [any_find,hf]
  cases t.find? (fun x=>x.1.data.toList == s.data.toList) <;> rfl
 rw [hh] at hr
 cases hx:t.find? (fun x=>x.1.data.toList == s.data.toList) with
 | some x =>
  rw [hx] at hva hr;simp only [Option.map_some,DataW.held.injEq] at hva;subst hva;exact .inl ⟨x,rfl,hr⟩
 | none =>
  rw [hx] at hva hr;simp only [Option.map_none,DataW.held.injEq] at hva;subst hva;exact .inr ⟨rfl,hr⟩
end
end Go.Cf
namespace Go.Cf
open Go.RowKit Go.Conc Go.Proofs
section
variable {B:Nat} {lab:Lab} {w:World} {K:PK} {X X':PX}
end
section
variable {K:PK} {s:ByteArray} {p st:Nat} {stk sk:List Nat} {cx cx1 fin:List CJ} {ks ks1:List ByteArray} {pt n:Nat} {j:JV}
def endT (e:Nat):ByteArray:=match e with
 | 0=>⟨#[10]⟩
 | 1=>⟨#[59,10]⟩
 | 2=>⟨#[32,35,32,101,110,100,10]⟩
 | 3=>⟨#[10,10]⟩
 | _=>⟨#[32,47,47,32,101,110,100,10]⟩
end
theorem order_symm (d e:Ieee.Datum) (h:d.order e=some .eq):e.order d=some .eq:=by
 cases d with
 | nan=>cases h
 | infinity s =>
  cases e with
  | nan=>cases h
  | infinity t=>cases s <;> cases t <;> first | rfl | (exact absurd h (by decide))
  | number t n j=>cases s <;> simp [Ieee.Datum.order] at h
 | number s m i =>
  cases e with
  | nan=>cases h
  | infinity t=>cases t <;> simp [Ieee.Datum.order] at h
  | number t n j =>
   simp only [Ieee.Datum.order,Option.some.injEq] at h ⊢;rw [Int.compare_eq_eq] at h ⊢;rw [Int.min_comm j i,h]
def FZ (f:Nat):Prop:=(FloatKind.f64.format.order f 0 == some .eq)=true∧(FloatKind.f64.format.order 0 f == some .eq)=true
theorem FZ.of (f:Nat) (h:(FloatKind.f64.format.order 0 f == some .eq)=true):FZ f:=by
 refine ⟨?_,h⟩;rw [beq_iff_eq] at h ⊢;exact order_symm _ _ h
section
variable {lab lab1:Lab} {w w1:World} {b:Nat} {W W1 W2:CW} {T T2:ByteArray} {k n:Int} {f:Nat} {is:Bool} {t:ByteArray} {a1 a2:Option Addr} {c1 c2:Nat} {j:JV}
theorem Rw.shape {B ℓ e size m:Nat} {v:Value} {xs:List Value} (h:Rw B ℓ lab w e size v m xs):∃ A c,v=.slice A m c:=by
 obtain ⟨⟨_,⟨rfl,rfl⟩ | ⟨g,cap,cur,rfl,_⟩⟩,_⟩:=h
 ·exact ⟨none,0,rfl⟩
 ·exact ⟨_,_,rfl⟩
end
attribute [local go_sem] run_store_flt
def KeysIn (w:World) (a:Option Addr) (m:Nat):Prop:=m=0 ∨ ∃ ad:Addr,a=some ad∧∀ i,i < m→∃ s:ByteArray,w.cell? (ad.add i)=some (.string s)∧s.size≤maxLen
section
variable {w w1:World} {k n:Int} {f:Nat} {is:Bool} {t:ByteArray} {a a1 a2:Option Addr} {m c m1 m2 c1 c2:Nat}
set_option maxRecDepth 100000 in
set_option maxHeartbeats 2000000 in
theorem fits2_c (hm:m≤maxLen) (hk:KeysIn w a m):Calls Tryz.prog 23 #[.slice a m c] w fun e w'=>(∃ ok,e=.returned (.bool ok))∧w'=w:=by
 have hmx:(m:Int)≤9223372036854775807:=by unfold maxLen at hm;omega
 go_enter Tryz.func23,Tryz.ntmps23;by_cases hb:m≤2147483647
 ·have d1:decide ((2147483647:Int) < (m:Int))=false:=decide_eq_false (by omega);go_wp2;go_loopw [10] (fun i wr=>∃ j:Nat,i=.int .i64 j∧j≤m∧wr=w) (fun i _=>m - (RowKit.intOf i).toNat)
  case atStart=>exact ⟨0,rfl,Nat.zero_le _,rfl⟩
  case round =>
   obtain ⟨j,rfl,hj,rfl⟩:=hrel;by_cases hjm:j < m
   ·have d2:decide ((j:Int) < (m:Int))=true:=decide_eq_true (by omega);rcases hk with h0 | ⟨ad,rfl,hk⟩
    ·omega
    ·obtain ⟨s,hs,hss⟩:=hk j hjm;have hj0:(0:Int)≤(j:Int):=Int.natCast_nonneg _;have hj1:(j:Int) < (m:Int):=by omega
     by_cases hsz:s.size≤2147483647
     ·have d3:decide ((2147483647:Int) < (s.size:Int))=false:=decide_eq_false (by omega);go_wp2;exact ⟨⟨j + 1,by push_cast;rfl,by omega,trivial⟩,by simp [RowKit.intOf];omega⟩
     ·have d3:decide ((2147483647:Int) < (s.size:Int))=true:=decide_eq_true (by omega);go_wp2;go_ret;exact ⟨⟨_,rfl⟩,rfl⟩
   ·have d2:decide ((j:Int) < (m:Int))=false:=decide_eq_false (by omega);go_wp2;go_ret;exact ⟨⟨_,rfl⟩,rfl⟩
 ·have d1:decide ((2147483647:Int) < (m:Int))=true:=decide_eq_true (by omega);go_wp2;go_ret;exact ⟨⟨_,rfl⟩,rfl⟩
theorem KeysIn.below (h:KeysIn w a m) (b:Below w.heap.size w w1):KeysIn w1 a m:=by
 rcases h with h | ⟨ad,rfl,h⟩
 ·exact .inl h
 ·refine .inr ⟨ad,rfl,fun i hi=>?_⟩;obtain ⟨s,hs,hz⟩:=h i hi;refine ⟨s,?_,hz⟩;have hl:=World.block_lt_of_cell? w _ hs;unfold World.cell? at hs ⊢;rw [b.block _ hl];exact hs
def nodV (k n:Int) (f:Nat) (is:Bool) (t:ByteArray) (a1:Option Addr) (m1 c1:Nat) (a2:Option Addr) (m2 c2:Nat):Value:=.agg #[.int .i64 k,.int .i64 n,.float .f64 f,.bool is,.string t,.slice a1 m1 c1,.slice a2 m2 c2]
set_option maxRecDepth 100000 in
set_option maxHeartbeats 2000000 in
theorem fits1_c (h1:m1≤maxLen) (hk:KeysIn w a1 m1) (ht:t.size≤maxLen) (h2:m2≤maxLen):Calls Tryz.prog 11 #[nodV k n f is t a1 m1 c1 a2 m2 c2] w fun e w'=>(∃ ok,e=.returned (.bool ok))∧Below w.heap.size w w':=by
 have hb:∀ o,Below w.heap.size w (w.alloc o):=fun o=>(Below.refl _ _).alloc (Nat.le_refl _) o
 have hF:=fun o=>fits2_c (c:=c1) h1 (hk.below (hb o))
 have htx:(t.size:Int)≤9223372036854775807:=by unfold maxLen at ht;omega
 have h2x:(m2:Int)≤9223372036854775807:=by unfold maxLen at h2;omega
 have HB:=Lib.hid hb;have HF:=Lib.hid hF;clear hb hF hk;unfold nodV;go_enter Tryz.func11,Tryz.ntmps11;by_cases d:t.size≤2147483647
 ·have d1:decide ((2147483647:Int) < (t.size:Int))=false:=decide_eq_false (by omega);go_wp2_with fail;refine (HF.out _).mono ?_;rintro e w1 ⟨⟨ok,rfl⟩,rfl⟩
  cases ok with
  | false =>
   go_wp2;go_ret;exact ⟨⟨_,rfl⟩,HB.out _⟩
  | true =>
   by_cases d2:m2≤2147483647
   ·have d3:decide ((2147483647:Int) < (m2:Int))=false:=decide_eq_false (by omega);go_wp2;go_ret;exact ⟨⟨_,rfl⟩,HB.out _⟩
   ·have d3:decide ((2147483647:Int) < (m2:Int))=true:=decide_eq_true (by omega);go_wp2;go_ret;exact ⟨⟨_,rfl⟩,HB.out _⟩
 ·have d1:decide ((2147483647:Int) < (t.size:Int))=true:=decide_eq_true (by omega);go_wp2;go_ret;exact ⟨⟨_,rfl⟩,HB.out _⟩
theorem text_nil {t:ByteArray} (h:t.toList.isEmpty=true):t=⟨#[]⟩:=by
 rw [Lib.toList_data,List.isEmpty_iff] at h;obtain ⟨⟨l⟩⟩:=t
 cases (show l=[] from h)
 rfl
end
end Go.Cf
namespace Go.Cf
open Go.RowKit Go.Conc Go.Proofs
section
variable {lab lab1:Lab} {w w1:World} {b:Nat} {W W1 W2:CW} {T T2:ByteArray} {k n:Int} {f:Nat} {is:Bool} {t:ByteArray} {a1 a2:Option Addr} {c1 c2:Nat} {j:JV}
end
section
variable {K:PK} {s:ByteArray} {p:Nat} {cx fin:List CJ} {pt:Nat} {j:JV} {m m2:List (ByteArray × JV)}
end
attribute [local go_sem ↓] appX_eq
abbrev KM (x:Nat):Prop:=x=40 ∨ x=41 ∨ x=42
def s18 (i:Nat):Nat:=if i≤21 then 153 + i else 152 + i
theorem getD_set (L:Array Bool) (i j:Nat) (hi:i < L.size):(L.setIfInBounds i true).getD j false=if j=i then true else L.getD j false:=by
 rw [gdg,gdg];by_cases h:j=i
 ·subst h;rw [if_pos rfl,Array.getElem?_setIfInBounds_self_of_lt hi];rfl
 ·rw [if_neg h,Array.getElem?_setIfInBounds_ne (fun e=>h e.symm)]
theorem wpOp_run {P:Program} {Q:Exit→Act→World→Prop} {l:List Oper} {i:Nat} {o:Oper} {a:Act} {w w2:World} {R:Act→World→Prop} {v:Value} (ho:l[i]?=some o) (hg:o.guard=none) (hrun:(execOp a.eval o).run P w=.ok (.value v) w2) (k:R (a.put o.dst v) w2):wpOp P l.toArray Q i R a w:=by
 have hw:Region.wanted o (yielded l.toArray a.tmps)=true:=by simp [Region.wanted,hg]
 unfold wpOp;simp only [List.getElem?_toArray,ho,hw,if_true]
 left
 unfold Oper.wp;rw [hrun];exact k
section
variable {lab0 lab lab2:Lab} {w0 w w2:World} {b nb gl:Nat} {W:CW} {sv kn va us inn:Value} {kB:ByteArray} {xs:List Value} {t0:Array Value} {L:Array Bool} {a:Act}
theorem s18_inj {i j:Nat} (h:s18 i=s18 j) (hi:i ≠ 22) (hj:j ≠ 22):i=j:=by
 unfold s18 at h
 split at h <;> split at h <;> omega
end
end Go.Cf
namespace Go.Cf
open Go.RowKit Go.Conc Go.Proofs
theorem info60:(Tryz.prog.info? 60).map (fun i=>(i.zero,i.size,i.bytes))=some (some (.agg #[.string { data:=#[] },i64 0,i64 0,.bool false]),4,40):=by kernel_rfl
attribute [local go_sem ↓] appX_eq
section
variable {lab lab1:Lab} {w w1:World} {b:Nat} {W W1 W2:CW} {T T2:ByteArray} {k n:Int} {f:Nat} {is:Bool} {t:ByteArray} {a1 a2:Option Addr} {c1 c2:Nat} {j:JV} {gk gl:Nat}
theorem wpOp_skip {P:Program} {Q:Exit→Act→World→Prop} {l:List Oper} {i:Nat} {o:Oper} {a:Act} {w w2:World} {R:Act→World→Prop} (ho:l[i]?=some o) (hg:o.guard=none) (hrun:(execOp a.eval o).run P w=.ok .skip w2) (k:R (a.put o.dst undef) w2):wpOp P l.toArray Q i R a w:=by
 have hw:Region.wanted o (yielded l.toArray a.tmps)=true:=by simp [Region.wanted,hg]
 unfold wpOp;simp only [List.getElem?_toArray,ho,hw,if_true]
 left
 unfold Oper.wp;rw [hrun];exact k
theorem WAt.cLine (h:WAt lab w b W):w.cell? ⟨b,1,none⟩=some (i64 W.line):=by
 obtain ⟨sv,kn,va,us,inn,h⟩:=h;exact h.cl.cell 1
theorem WAt.cText (h:WAt lab w b W):w.cell? ⟨b,0,none⟩=some (.string W.text):=by
 obtain ⟨sv,kn,va,us,inn,h⟩:=h;exact h.cl.cell 0
structure Same (W W':CW):Prop where
 text:W'.text=W.text
 line:W'.line=W.line
 bad:W'.bad=W.bad
 used:W'.used=W.used
def qd:ByteArray:=⟨#[46,45,95,48,49,50,51,52,53,54,55,56,57]⟩
def endRow:Array Value:=#[.string ⟨#[10]⟩,.string ⟨#[59,10]⟩,.string ⟨#[32,35,32,101,110,100,10]⟩,.string ⟨#[10,10]⟩,.string ⟨#[32,47,47,32,101,110,100,10]⟩,.string ⟨#[59]⟩,.string ⟨#[44]⟩]
def endS (e:Nat):ByteArray:=match e with
 | 5=>⟨#[59]⟩
 | 6=>⟨#[44]⟩
 | e=>endT e
theorem end_get (e:Nat) (h:e < 7):endRow[e]?=some (.string (endS e)):=by
 match e,h with
 | 0,_=>rfl
 | 1,_=>rfl
 | 2,_=>rfl
 | 3,_=>rfl
 | 4,_=>rfl
 | 5,_=>rfl
 | 6,_=>rfl
end
end Go.Cf
namespace Go.Cf
open Go.RowKit Go.Conc Go.Proofs
attribute [local go_sem] run_store_flt
section
variable {w w1 w2:World} {k n:Int} {f:Nat} {is:Bool} {t:ByteArray} {a a1 a2:Option Addr} {m c m1 m2 c1 c2 gk gl:Nat}
theorem _root_.Go.RowKit.Below.cellB {a:Addr} {v:Value} (b:Below w.heap.size w w1) (h:w.cell? a=some v):w1.cell? a=some v:=by
 have hl:=World.block_lt_of_cell? w _ h;unfold World.cell? at h ⊢;rw [b.block _ hl];exact h
end
end Go.Cf
namespace Go.Cf
open Go.RowKit Go.Conc Go.Proofs
def cell7 (w:World) (a:Addr) (i:Nat) (c:Array Value):Prop:=∀ j,j < 7→w.cell? (a.add (i * 7 + j))=c[j]?
def KsIn (ℓ:Nat) (lab:Lab) (w:World) (a:Option Addr) (ks:List ByteArray):Prop:=∀ i k,ks[i]?=some k→∃ ad:Addr,a=some ad∧lab ad.block=ℓ∧w.cell? (ad.add i)=some (.string k)
mutual
def NdV (ℓ:Nat) (lab:Lab) (w:World):JV→Array Value→Prop
 | .int n,c=>∃ f a1 c1 a2 c2,FZ f∧c=ndC 1 n f false { data:=#[] } (.slice a1 0 c1) (.slice a2 0 c2)
 | .num f,c=>∃ a1 c1 a2 c2,c=ndC 2 0 f false { data:=#[] } (.slice a1 0 c1) (.slice a2 0 c2)
 | .tr b,c=>∃ f a1 c1 a2 c2,FZ f∧c=ndC 3 0 f b { data:=#[] } (.slice a1 0 c1) (.slice a2 0 c2)
 | .txt s,c=>∃ f a1 c1 a2 c2,FZ f∧c=ndC 4 0 f false s (.slice a1 0 c1) (.slice a2 0 c2)
 | .arr l,c=>∃ f a1 c1 a2 c2,FZ f∧c=ndC 5 0 f false { data:=#[] } (.slice a1 0 c1) (.slice a2 l.length c2)∧NdVs ℓ lab w a2 0 l
 | .map ks l,c=>∃ f a1 c1 a2 c2,FZ f∧c=ndC 6 0 f false { data:=#[] } (.slice a1 ks.length c1) (.slice a2 l.length c2)∧KsIn ℓ lab w a1 ks∧NdVs ℓ lab w a2 0 l
def NdVs (ℓ:Nat) (lab:Lab) (w:World) (a:Option Addr):Nat→List JV→Prop
 | _,[]=>True
 | i,j :: r=>(∃ (ad:Addr) (c:Array Value),a=some ad∧lab ad.block=ℓ∧cell7 w ad i c∧NdV ℓ lab w j c)∧NdVs ℓ lab w a (i + 1) r
end
def JT:Nat→JV→Prop
 | 0,_=>False
 | _ + 1,.int n=>-9223372036854775808≤n∧n≤9223372036854775807
 | _ + 1,.num f=>FloatKind.f64.format.order f f=some .eq
 | _ + 1,.tr _=>True
 | _ + 1,.txt t=>t.size≤60
 | d + 1,.arr l=>l.length≤8∧∀ j ∈ l,JT d j
 | d + 1,.map ks l=>ks.length≤8∧l.length≤8∧(∀ k ∈ ks,k.size≤20)∧∀ j ∈ l,JT d j
def NdR (w:World):Nat→Array Value→Prop
 | d,c=>∃ (k n:Int) (f:Nat) (is:Bool) (t:ByteArray) (a1:Option Addr) (m1 c1:Nat) (a2:Option Addr) (m2 c2:Nat),c=ndC k n f is t (.slice a1 m1 c1) (.slice a2 m2 c2)∧-9223372036854775808≤n∧n≤9223372036854775807 ∧
   t.size≤maxLen∧m1≤maxLen∧m2≤maxLen∧KeysIn w a1 m1∧(match d with
    | 0=>True
    | d + 1=>∀ i,i < m2→∃ (ad:Addr) (c':Array Value),a2=some ad∧cell7 w ad i c'∧NdR w d c')
section
variable {ℓ:Nat} {M:Nat→Prop} {w w1:World} {lab lab1:Lab}
theorem cell_mv {a:Addr} {v:Value} (m:Mv M w lab w1 lab1) (hl:¬ M (lab a.block)) (h:w.cell? a=some v):w1.cell? a=some v:=by
 have hb:=m.block a.block (World.block_lt_of_cell? w _ h) hl;unfold World.cell? at h ⊢;rw [hb];exact h
theorem add_block (a:Addr) (i:Nat):(a.add i).block=a.block:=by unfold Addr.add;split <;> rfl
theorem KsIn.mv {a:Option Addr} {ks:List ByteArray} (h:KsIn ℓ lab w a ks) (m:Mv M w lab w1 lab1) (hM:¬ M ℓ):KsIn ℓ lab1 w1 a ks:=by
 intro i k hk;obtain ⟨ad,rfl,hl,hc⟩:=h i k hk;have hlt:=World.block_lt_of_cell? w _ hc;rw [add_block] at hlt;exact ⟨ad,rfl,(m.lab _ hlt (by rw [hl];exact hM)).trans hl,cell_mv m (by rw [add_block,hl];exact hM) hc⟩
theorem ndC_some {k n:Int} {f:Nat} {b:Bool} {s:ByteArray} {kv lv:Value} (j:Nat) (hj:j < 7):∃ v,(ndC k n f b s kv lv)[j]?=some v:=by
 match j,hj with
 | 0,_ | 1,_ | 2,_ | 3,_ | 4,_ | 5,_ | 6,_=>exact ⟨_,rfl⟩
theorem NdV.shape:∀ {j:JV} {c:Array Value},NdV ℓ lab w j c→∃ k n f b s a1 m1 c1 a2 m2 c2,c=ndC k n f b s (.slice a1 m1 c1) (.slice a2 m2 c2)
 | .int _,_,h=>by simp only [NdV] at h;obtain ⟨f,a1,c1,a2,c2,_,rfl⟩:=h;exact ⟨_,_,_,_,_,_,_,_,_,_,_,rfl⟩
 | .num _,_,h=>by simp only [NdV] at h;obtain ⟨a1,c1,a2,c2,rfl⟩:=h;exact ⟨_,_,_,_,_,_,_,_,_,_,_,rfl⟩
 | .tr _,_,h=>by simp only [NdV] at h;obtain ⟨f,a1,c1,a2,c2,_,rfl⟩:=h;exact ⟨_,_,_,_,_,_,_,_,_,_,_,rfl⟩
 | .txt _,_,h=>by simp only [NdV] at h;obtain ⟨f,a1,c1,a2,c2,_,rfl⟩:=h;exact ⟨_,_,_,_,_,_,_,_,_,_,_,rfl⟩
 | .arr _,_,h=>by simp only [NdV] at h;obtain ⟨f,a1,c1,a2,c2,_,rfl,_⟩:=h;exact ⟨_,_,_,_,_,_,_,_,_,_,_,rfl⟩
 | .map _ _,_,h=>by simp only [NdV] at h;obtain ⟨f,a1,c1,a2,c2,_,rfl,_⟩:=h;exact ⟨_,_,_,_,_,_,_,_,_,_,_,rfl⟩
mutual
theorem NdV.mv (m:Mv M w lab w1 lab1) (hM:¬ M ℓ):∀ (j:JV) {c:Array Value},NdV ℓ lab w j c→NdV ℓ lab1 w1 j c
 | .int n,c,h=>by simp only [NdV] at h ⊢;exact h
 | .num n,c,h=>by simp only [NdV] at h ⊢;exact h
 | .tr n,c,h=>by simp only [NdV] at h ⊢;exact h
 | .txt n,c,h=>by simp only [NdV] at h ⊢;exact h
 | .arr l,c,h=>by
  simp only [NdV] at h ⊢;obtain ⟨f,a1,c1,a2,c2,hf,hc,hl⟩:=h;exact ⟨f,a1,c1,a2,c2,hf,hc,NdVs.mv m hM l hl⟩
 | .map ks l,c,h=>by
  simp only [NdV] at h ⊢;obtain ⟨f,a1,c1,a2,c2,hf,hc,hk,hl⟩:=h;exact ⟨f,a1,c1,a2,c2,hf,hc,hk.mv m hM,NdVs.mv m hM l hl⟩
theorem NdVs.mv (m:Mv M w lab w1 lab1) (hM:¬ M ℓ):∀ (l:List JV) {a:Option Addr} {i:Nat},NdVs ℓ lab w a i l→NdVs ℓ lab1 w1 a i l
 | [],_,_,h=>by simp only [NdVs]
 | j :: r,a,i,h=>by
  simp only [NdVs] at h ⊢;obtain ⟨⟨ad,c,ha,hl,hc,hj⟩,hr⟩:=h;have hc2:∀ q,q < 7→w1.cell? (ad.add (i * 7 + q))=c[q]?:=fun q hq=>by
   obtain ⟨k,n,f,b,s,_,_,_,_,_,_,rfl⟩:=hj.shape;obtain ⟨v,hv⟩:=ndC_some (k:=k) (n:=n) (f:=f) (b:=b) (s:=s) q hq;have h1:=hc q hq;rw [hv] at h1 ⊢;exact cell_mv m (by rw [add_block,hl];exact hM) h1
  have hlt:ad.block < w.heap.size:=by
   obtain ⟨k,n,f,b,s,_,_,_,_,_,_,rfl⟩:=hj.shape;have h1:=hc 0 (by decide);have:=World.block_lt_of_cell? w _ (show w.cell? (ad.add (i * 7 + 0))=some (.int .i64 k) from h1);rwa [add_block] at this
  exact ⟨⟨ad,c,ha,(m.lab _ hlt (by rw [hl];exact hM)).trans hl,hc2,NdV.mv m hM j hj⟩,NdVs.mv m hM r hr⟩
end
theorem NdVs.get:∀ {l:List JV} {a:Option Addr} {i q:Nat} {j:JV},NdVs ℓ lab w a i l→l[q]?=some j→∃ (ad:Addr) (c:Array Value),a=some ad∧lab ad.block=ℓ∧cell7 w ad (i + q) c∧NdV ℓ lab w j c
 | _ :: _,_,_,0,_,h,hj=>by
  simp only [NdVs] at h;simp only [List.getElem?_cons_zero,Option.some.injEq] at hj;subst hj;exact h.1
 | _ :: _,_,i,q + 1,_,h,hj=>by
  simp only [NdVs] at h;obtain ⟨ad,c,h1,h2,h3,h4⟩:=NdVs.get h.2 (by simpa using hj);exact ⟨ad,c,h1,h2,by rw [show i + (q + 1)=i + 1 + q from by omega];exact h3,h4⟩
theorem NdVs.of:∀ {l:List JV} {a:Option Addr} {i:Nat},(∀ q j,l[q]?=some j→∃ (ad:Addr) (c:Array Value),a=some ad∧lab ad.block=ℓ∧cell7 w ad (i + q) c∧NdV ℓ lab w j c)→NdVs ℓ lab w a i l
 | [],_,_,_=>by simp only [NdVs]
 | j :: r,a,i,h=>by
  simp only [NdVs];refine ⟨h 0 j rfl,NdVs.of fun q j' hq=>?_⟩;obtain ⟨ad,c,h1,h2,h3,h4⟩:=h (q + 1) j' (by simpa using hq);exact ⟨ad,c,h1,h2,by rw [show i + 1 + q=i + (q + 1) from by omega];exact h3,h4⟩
theorem NdR.below (b:Below w.heap.size w w1):∀ (d:Nat) {c:Array Value},NdR w d c→NdR w1 d c:=by
 intro d
 induction d with
 | zero =>
  intro c h;unfold NdR at h ⊢;obtain ⟨k,n,f,is,t,a1,m1,c1,a2,m2,c2,h1,h2,h3,h4,h5,h6,h7,h8⟩:=h;exact ⟨k,n,f,is,t,a1,m1,c1,a2,m2,c2,h1,h2,h3,h4,h5,h6,h7.below b,trivial⟩
 | succ d ih =>
  intro c h;unfold NdR at h ⊢;obtain ⟨k,n,f,is,t,a1,m1,c1,a2,m2,c2,h1,h2,h3,h4,h5,h6,h7,h8⟩:=h;refine ⟨k,n,f,is,t,a1,m1,c1,a2,m2,c2,h1,h2,h3,h4,h5,h6,h7.below b,fun i hi=>?_⟩;obtain ⟨ad,c',ha,hc,hr⟩:=h8 i hi;refine ⟨ad,c',ha,fun q hq=>?_,ih hr⟩;have h0:=hc q hq;have hx:∃ v,c'[q]?=some v:=by
   unfold NdR at hr;obtain ⟨k,n,f,is,t,a1,m1,c1,a2,m2,c2,rfl,_⟩:=hr;exact ndC_some q hq
  obtain ⟨v,hv⟩:=hx;rw [hv] at h0 ⊢;exact b.cellB h0
end
attribute [local go_sem] run_store_flt
def PuK1 (n:Int) (f:Nat) (is:Bool) (t:ByteArray) (m1 m2:Nat):Prop:=(n=n∧f=f∧is=is∧t=t∧m1=m1∧m2=m2)∧FZ f∧is=false∧t={ data:=#[] }∧m1=0∧m2=0
def PuK2 (n:Int) (f:Nat) (is:Bool) (t:ByteArray) (m1 m2:Nat):Prop:=(n=n∧f=f∧is=is∧t=t∧m1=m1∧m2=m2)∧n=0∧FloatKind.f64.format.order f f=some .eq∧is=false∧t={ data:=#[] }∧m1=0∧m2=0
def PuK3 (n:Int) (f:Nat) (is:Bool) (t:ByteArray) (m1 m2:Nat):Prop:=(n=n∧f=f∧is=is∧t=t∧m1=m1∧m2=m2)∧n=0∧FZ f∧t={ data:=#[] }∧m1=0∧m2=0
def PuK4 (n:Int) (f:Nat) (is:Bool) (t:ByteArray) (m1 m2:Nat):Prop:=(n=n∧f=f∧is=is∧t=t∧m1=m1∧m2=m2)∧n=0∧FZ f∧is=false∧m1=0∧m2=0
def PuK5 (n:Int) (f:Nat) (is:Bool) (t:ByteArray) (m1 m2:Nat):Prop:=(n=n∧f=f∧is=is∧t=t∧m1=m1∧m2=m2)∧n=0∧FZ f∧is=false∧t={ data:=#[] }∧m1=0
def PuK6 (n:Int) (f:Nat) (is:Bool) (t:ByteArray) (m1 m2:Nat):Prop:=(n=n∧f=f∧is=is∧t=t∧m1=m1∧m2=m2)∧n=0∧FZ f∧is=false∧t={ data:=#[] }
section
variable {w:World} {k n:Int} {f:Nat} {is:Bool} {t:ByteArray} {a1 a2:Option Addr} {m1 c1 m2 c2:Nat}
set_option maxRecDepth 100000 in
set_option maxHeartbeats 4000000 in
theorem pur1_c:Calls Tryz.prog 24 #[nodV 1 n f is t a1 m1 c1 a2 m2 c2] w fun e w'=>(∃ ok,e=.returned (.bool ok)∧(ok=true→PuK1 n f is t m1 m2))∧Below w.heap.size w w':=by
 have hb:∀ o o2,Below w.heap.size w ((w.alloc o).alloc o2):=fun o o2=>((Below.refl _ _).alloc (Nat.le_refl _) o).alloc (by rw [World.size_alloc];omega) o2
 have HB:=Lib.hid hb;clear hb;unfold nodV;go_enter Tryz.func24,Tryz.ntmps24;by_cases hp:FloatKind.f64.format.order 0 f=some .eq
 case neg =>
  have e1:(FloatKind.f64.format.order 0 f != some .eq)=true:=by rw [bne_iff_ne];exact hp
  go_wp2;go_ret;exact ⟨⟨_,rfl,fun h=>by cases h⟩,HB.out _ _⟩
 have e1:(FloatKind.f64.format.order 0 f != some .eq)=false:=by rw [hp];rfl
 cases is
 case true =>
  go_wp2;go_ret;exact ⟨⟨_,rfl,fun h=>by cases h⟩,HB.out _ _⟩
 cases ht:t.toList.isEmpty
 case false =>
  go_wp2;go_ret;exact ⟨⟨_,rfl,fun h=>by cases h⟩,HB.out _ _⟩
 by_cases hm1:m1=0
 case neg =>
  have em1:((m1:Int) == 0)=false:=bqf (by omega);go_wp2;go_ret;exact ⟨⟨_,rfl,fun h=>by cases h⟩,HB.out _ _⟩
 have em1:((m1:Int) == 0)=true:=beq_iff_eq.2 (by omega);by_cases hm2:m2=0
 case neg =>
  have em2:((m2:Int) == 0)=false:=bqf (by omega);go_wp2;go_ret;exact ⟨⟨_,rfl,fun h=>by cases h⟩,HB.out _ _⟩
 have em2:((m2:Int) == 0)=true:=beq_iff_eq.2 (by omega);go_wp2;go_ret;exact ⟨⟨_,rfl,fun _=>⟨⟨rfl,rfl,rfl,rfl,rfl,rfl⟩,FZ.of f (by rw [hp];rfl),rfl,text_nil ht,hm1,hm2⟩⟩,HB.out _ _⟩
set_option maxRecDepth 100000 in
set_option maxHeartbeats 4000000 in
theorem pur2_c:Calls Tryz.prog 24 #[nodV 2 n f is t a1 m1 c1 a2 m2 c2] w fun e w'=>(∃ ok,e=.returned (.bool ok)∧(ok=true→PuK2 n f is t m1 m2))∧Below w.heap.size w w':=by
 have hb:∀ o o2,Below w.heap.size w ((w.alloc o).alloc o2):=fun o o2=>((Below.refl _ _).alloc (Nat.le_refl _) o).alloc (by rw [World.size_alloc];omega) o2
 have HB:=Lib.hid hb;clear hb;unfold nodV;go_enter Tryz.func24,Tryz.ntmps24;by_cases hn:n=0
 case neg =>
  have en:((0:Int) != n)=true:=by rw [bne_iff_ne];exact fun e=>hn e.symm
  have en2:¬ (0:Int)=n:=fun e=>hn e.symm
  go_wp2;go_ret;exact ⟨⟨_,rfl,fun h=>by cases h⟩,HB.out _ _⟩
 subst hn;by_cases hp:FloatKind.f64.format.order f f=some .eq
 case neg =>
  have e1:(FloatKind.f64.format.order f f != some .eq)=true:=by rw [bne_iff_ne];exact hp
  go_wp2;go_ret;exact ⟨⟨_,rfl,fun h=>by cases h⟩,HB.out _ _⟩
 have e1:(FloatKind.f64.format.order f f != some .eq)=false:=by rw [hp];rfl
 cases is
 case true =>
  go_wp2;go_ret;exact ⟨⟨_,rfl,fun h=>by cases h⟩,HB.out _ _⟩
 cases ht:t.toList.isEmpty
 case false =>
  go_wp2;go_ret;exact ⟨⟨_,rfl,fun h=>by cases h⟩,HB.out _ _⟩
 by_cases hm1:m1=0
 case neg =>
  have em1:((m1:Int) == 0)=false:=bqf (by omega);go_wp2;go_ret;exact ⟨⟨_,rfl,fun h=>by cases h⟩,HB.out _ _⟩
 have em1:((m1:Int) == 0)=true:=beq_iff_eq.2 (by omega);by_cases hm2:m2=0
 case neg =>
  have em2:((m2:Int) == 0)=false:=bqf (by omega);go_wp2;go_ret;exact ⟨⟨_,rfl,fun h=>by cases h⟩,HB.out _ _⟩
 have em2:((m2:Int) == 0)=true:=beq_iff_eq.2 (by omega);go_wp2;go_ret;exact ⟨⟨_,rfl,fun _=>⟨⟨rfl,rfl,rfl,rfl,rfl,rfl⟩,rfl,hp,rfl,text_nil ht,hm1,hm2⟩⟩,HB.out _ _⟩
set_option maxRecDepth 100000 in
set_option maxHeartbeats 4000000 in
theorem pur3_c:Calls Tryz.prog 24 #[nodV 3 n f is t a1 m1 c1 a2 m2 c2] w fun e w'=>(∃ ok,e=.returned (.bool ok)∧(ok=true→PuK3 n f is t m1 m2))∧Below w.heap.size w w':=by
 have hb:∀ o o2,Below w.heap.size w ((w.alloc o).alloc o2):=fun o o2=>((Below.refl _ _).alloc (Nat.le_refl _) o).alloc (by rw [World.size_alloc];omega) o2
 have HB:=Lib.hid hb;clear hb;unfold nodV;go_enter Tryz.func24,Tryz.ntmps24;by_cases hn:n=0
 case neg =>
  have en:((0:Int) != n)=true:=by rw [bne_iff_ne];exact fun e=>hn e.symm
  have en2:¬ (0:Int)=n:=fun e=>hn e.symm
  go_wp2;go_ret;exact ⟨⟨_,rfl,fun h=>by cases h⟩,HB.out _ _⟩
 subst hn;by_cases hp:FloatKind.f64.format.order 0 f=some .eq
 case neg =>
  have e1:(FloatKind.f64.format.order 0 f != some .eq)=true:=by rw [bne_iff_ne];exact hp
  go_wp2;go_ret;exact ⟨⟨_,rfl,fun h=>by cases h⟩,HB.out _ _⟩
 have e1:(FloatKind.f64.format.order 0 f != some .eq)=false:=by rw [hp];rfl
 cases ht:t.toList.isEmpty
 case false =>
  go_wp2;go_ret;exact ⟨⟨_,rfl,fun h=>by cases h⟩,HB.out _ _⟩
 by_cases hm1:m1=0
 case neg =>
  have em1:((m1:Int) == 0)=false:=bqf (by omega);go_wp2;go_ret;exact ⟨⟨_,rfl,fun h=>by cases h⟩,HB.out _ _⟩
 have em1:((m1:Int) == 0)=true:=beq_iff_eq.2 (by omega);by_cases hm2:m2=0
 case neg =>
  have em2:((m2:Int) == 0)=false:=bqf (by omega);go_wp2;go_ret;exact ⟨⟨_,rfl,fun h=>by cases h⟩,HB.out _ _⟩
 have em2:((m2:Int) == 0)=true:=beq_iff_eq.2 (by omega);go_wp2;go_ret;exact ⟨⟨_,rfl,fun _=>⟨⟨rfl,rfl,rfl,rfl,rfl,rfl⟩,rfl,FZ.of f (by rw [hp];rfl),text_nil ht,hm1,hm2⟩⟩,HB.out _ _⟩
set_option maxRecDepth 100000 in
set_option maxHeartbeats 4000000 in
theorem pur4_c:Calls Tryz.prog 24 #[nodV 4 n f is t a1 m1 c1 a2 m2 c2] w fun e w'=>(∃ ok,e=.returned (.bool ok)∧(ok=true→PuK4 n f is t m1 m2))∧Below w.heap.size w w':=by
 have hb:∀ o o2,Below w.heap.size w ((w.alloc o).alloc o2):=fun o o2=>((Below.refl _ _).alloc (Nat.le_refl _) o).alloc (by rw [World.size_alloc];omega) o2
 have HB:=Lib.hid hb;clear hb;unfold nodV;go_enter Tryz.func24,Tryz.ntmps24;by_cases hn:n=0
 case neg =>
  have en:((0:Int) != n)=true:=by rw [bne_iff_ne];exact fun e=>hn e.symm
  have en2:¬ (0:Int)=n:=fun e=>hn e.symm
  go_wp2;go_ret;exact ⟨⟨_,rfl,fun h=>by cases h⟩,HB.out _ _⟩
 subst hn;by_cases hp:FloatKind.f64.format.order 0 f=some .eq
 case neg =>
  have e1:(FloatKind.f64.format.order 0 f != some .eq)=true:=by rw [bne_iff_ne];exact hp
  go_wp2;go_ret;exact ⟨⟨_,rfl,fun h=>by cases h⟩,HB.out _ _⟩
 have e1:(FloatKind.f64.format.order 0 f != some .eq)=false:=by rw [hp];rfl
 cases is
 case true =>
  go_wp2;go_ret;exact ⟨⟨_,rfl,fun h=>by cases h⟩,HB.out _ _⟩
 by_cases hm1:m1=0
 case neg =>
  have em1:((m1:Int) == 0)=false:=bqf (by omega);go_wp2;go_ret;exact ⟨⟨_,rfl,fun h=>by cases h⟩,HB.out _ _⟩
 have em1:((m1:Int) == 0)=true:=beq_iff_eq.2 (by omega);by_cases hm2:m2=0
 case neg =>
  have em2:((m2:Int) == 0)=false:=bqf (by omega);go_wp2;go_ret;exact ⟨⟨_,rfl,fun h=>by cases h⟩,HB.out _ _⟩
 have em2:((m2:Int) == 0)=true:=beq_iff_eq.2 (by omega);go_wp2;go_ret;exact ⟨⟨_,rfl,fun _=>⟨⟨rfl,rfl,rfl,rfl,rfl,rfl⟩,rfl,FZ.of f (by rw [hp];rfl),rfl,hm1,hm2⟩⟩,HB.out _ _⟩
set_option maxRecDepth 100000 in
set_option maxHeartbeats 4000000 in
theorem pur5_c:Calls Tryz.prog 24 #[nodV 5 n f is t a1 m1 c1 a2 m2 c2] w fun e w'=>(∃ ok,e=.returned (.bool ok)∧(ok=true→PuK5 n f is t m1 m2))∧Below w.heap.size w w':=by
 have hb:∀ o o2,Below w.heap.size w ((w.alloc o).alloc o2):=fun o o2=>((Below.refl _ _).alloc (Nat.le_refl _) o).alloc (by rw [World.size_alloc];omega) o2
 have HB:=Lib.hid hb;clear hb;unfold nodV;go_enter Tryz.func24,Tryz.ntmps24;by_cases hn:n=0
 case neg =>
  have en:((0:Int) != n)=true:=by rw [bne_iff_ne];exact fun e=>hn e.symm
  have en2:¬ (0:Int)=n:=fun e=>hn e.symm
  go_wp2;go_ret;exact ⟨⟨_,rfl,fun h=>by cases h⟩,HB.out _ _⟩
 subst hn;by_cases hp:FloatKind.f64.format.order 0 f=some .eq
 case neg =>
  have e1:(FloatKind.f64.format.order 0 f != some .eq)=true:=by rw [bne_iff_ne];exact hp
  go_wp2;go_ret;exact ⟨⟨_,rfl,fun h=>by cases h⟩,HB.out _ _⟩
 have e1:(FloatKind.f64.format.order 0 f != some .eq)=false:=by rw [hp];rfl
 cases is
 case true =>
  go_wp2;go_ret;exact ⟨⟨_,rfl,fun h=>by cases h⟩,HB.out _ _⟩
 cases ht:t.toList.isEmpty
 case false =>
  go_wp2;go_ret;exact ⟨⟨_,rfl,fun h=>by cases h⟩,HB.out _ _⟩
 by_cases hm1:m1=0
 case neg =>
  have em1:((m1:Int) == 0)=false:=bqf (by omega);go_wp2;go_ret;exact ⟨⟨_,rfl,fun h=>by cases h⟩,HB.out _ _⟩
 have em1:((m1:Int) == 0)=true:=beq_iff_eq.2 (by omega);go_wp2;go_ret;exact ⟨⟨_,rfl,fun _=>⟨⟨rfl,rfl,rfl,rfl,rfl,rfl⟩,rfl,FZ.of f (by rw [hp];rfl),rfl,text_nil ht,hm1⟩⟩,HB.out _ _⟩
set_option maxRecDepth 100000 in
set_option maxHeartbeats 4000000 in
theorem pur6_c:Calls Tryz.prog 24 #[nodV 6 n f is t a1 m1 c1 a2 m2 c2] w fun e w'=>(∃ ok,e=.returned (.bool ok)∧(ok=true→PuK6 n f is t m1 m2))∧Below w.heap.size w w':=by
 have hb:∀ o o2,Below w.heap.size w ((w.alloc o).alloc o2):=fun o o2=>((Below.refl _ _).alloc (Nat.le_refl _) o).alloc (by rw [World.size_alloc];omega) o2
 have HB:=Lib.hid hb;clear hb;unfold nodV;go_enter Tryz.func24,Tryz.ntmps24;by_cases hn:n=0
 case neg =>
  have en:((0:Int) != n)=true:=by rw [bne_iff_ne];exact fun e=>hn e.symm
  have en2:¬ (0:Int)=n:=fun e=>hn e.symm
  go_wp2;go_ret;exact ⟨⟨_,rfl,fun h=>by cases h⟩,HB.out _ _⟩
 subst hn;by_cases hp:FloatKind.f64.format.order 0 f=some .eq
 case neg =>
  have e1:(FloatKind.f64.format.order 0 f != some .eq)=true:=by rw [bne_iff_ne];exact hp
  go_wp2;go_ret;exact ⟨⟨_,rfl,fun h=>by cases h⟩,HB.out _ _⟩
 have e1:(FloatKind.f64.format.order 0 f != some .eq)=false:=by rw [hp];rfl
 cases is
 case true =>
  go_wp2;go_ret;exact ⟨⟨_,rfl,fun h=>by cases h⟩,HB.out _ _⟩
 cases ht:t.toList.isEmpty
 case false =>
  go_wp2;go_ret;exact ⟨⟨_,rfl,fun h=>by cases h⟩,HB.out _ _⟩
 go_wp2;go_ret;exact ⟨⟨_,rfl,fun _=>⟨⟨rfl,rfl,rfl,rfl,rfl,rfl⟩,rfl,FZ.of f (by rw [hp];rfl),rfl,text_nil ht⟩⟩,HB.out _ _⟩
set_option maxRecDepth 100000 in
set_option maxHeartbeats 4000000 in
theorem purX_c (h1:k ≠ 1) (h2:k ≠ 2) (h3:k ≠ 3) (h4:k ≠ 4) (h5:k ≠ 5) (h6:k ≠ 6):Calls Tryz.prog 24 #[nodV k n f is t a1 m1 c1 a2 m2 c2] w fun e w'=>e=.returned (.bool false)∧Below w.heap.size w w':=by
 have hb:∀ o o2,Below w.heap.size w ((w.alloc o).alloc o2):=fun o o2=>((Below.refl _ _).alloc (Nat.le_refl _) o).alloc (by rw [World.size_alloc];omega) o2
 have HB:=Lib.hid hb;have b1:(k == 1)=false:=bqf h1;have b2:(k == 2)=false:=bqf h2;have b3:(k == 3)=false:=bqf h3;have b4:(k == 4)=false:=bqf h4;have b5:(k == 5)=false:=bqf h5;have b6:(k == 6)=false:=bqf h6;clear hb;unfold nodV;go_enter Tryz.func24,Tryz.ntmps24;go_wp2;go_ret;exact ⟨rfl,HB.out _ _⟩
end
end Go.Cf
namespace Go.Cf
open Go.RowKit Go.Conc Go.Proofs
abbrev L0:Lab:=fun _=>0
section
variable {lab lab2:Lab} {w0 w w2:World} {s9 gl cl:Nat} {X Y:Array Value} {t0:Array Value} {L:Array Bool} {a:Act}
end
attribute [local go_sem] run_store_flt
section
variable {w w1:World} {k n:Int} {f:Nat} {is:Bool} {t:ByteArray} {a1 a2:Option Addr} {m1 c1 m2 c2:Nat}
def PuAny (k n:Int) (f:Nat) (is:Bool) (t:ByteArray) (m1 m2:Nat):Prop :=
 (k=1∧PuK1 n f is t m1 m2) ∨ (k=2∧PuK2 n f is t m1 m2) ∨ (k=3∧PuK3 n f is t m1 m2) ∨ (k=4∧PuK4 n f is t m1 m2) ∨ (k=5∧PuK5 n f is t m1 m2) ∨ (k=6∧PuK6 n f is t m1 m2)
theorem pure_c:Calls Tryz.prog 24 #[nodV k n f is t a1 m1 c1 a2 m2 c2] w fun e w'=>(∃ ok,e=.returned (.bool ok)∧(ok=true→PuAny k n f is t m1 m2))∧Below w.heap.size w w':=by
 by_cases h1:k=1
 ·subst h1;exact pur1_c.mono fun e w' ⟨⟨ok,h,hk⟩,hb⟩=>⟨⟨ok,h,fun e=>.inl ⟨rfl,hk e⟩⟩,hb⟩
 by_cases h2:k=2
 ·subst h2;exact pur2_c.mono fun e w' ⟨⟨ok,h,hk⟩,hb⟩=>⟨⟨ok,h,fun e=>.inr (.inl ⟨rfl,hk e⟩)⟩,hb⟩
 by_cases h3:k=3
 ·subst h3;exact pur3_c.mono fun e w' ⟨⟨ok,h,hk⟩,hb⟩=>⟨⟨ok,h,fun e=>.inr (.inr (.inl ⟨rfl,hk e⟩))⟩,hb⟩
 by_cases h4:k=4
 ·subst h4;exact pur4_c.mono fun e w' ⟨⟨ok,h,hk⟩,hb⟩=>⟨⟨ok,h,fun e=>.inr (.inr (.inr (.inl ⟨rfl,hk e⟩)))⟩,hb⟩
 by_cases h5:k=5
 ·subst h5;exact pur5_c.mono fun e w' ⟨⟨ok,h,hk⟩,hb⟩=>⟨⟨ok,h,fun e=>.inr (.inr (.inr (.inr (.inl ⟨rfl,hk e⟩))))⟩,hb⟩
 by_cases h6:k=6
 ·subst h6;exact pur6_c.mono fun e w' ⟨⟨ok,h,hk⟩,hb⟩=>⟨⟨ok,h,fun e=>.inr (.inr (.inr (.inr (.inr ⟨rfl,hk e⟩))))⟩,hb⟩
 exact (purX_c h1 h2 h3 h4 h5 h6).mono fun e w' ⟨h,hb⟩=>⟨⟨_,h,fun e=>by cases e⟩,hb⟩
def TreeOk (w:World) (d:Nat) (c:Array Value):Prop:=∃ j,NdV 0 L0 w j c∧JT d j
def Elems (w:World) (d:Nat) (a:Option Addr) (m:Nat):Prop:=∀ q,q < m→∃ (ad:Addr) (c:Array Value),a=some ad∧cell7 w ad q c∧TreeOk w d c
def KeysOk (w:World) (a:Option Addr) (m:Nat):Prop:=∀ q,q < m→∃ (ad:Addr) (s:ByteArray),a=some ad∧w.cell? (ad.add q)=some (.string s)∧s.size≤20
theorem pick_list {α:Type} {p:Nat→α→Prop}:∀ m:Nat,(∀ q,q < m→∃ x,p q x)→∃ l:List α,l.length=m∧∀ q x,l[q]?=some x→p q x
 | 0,_=>⟨[],rfl,fun q x h=>by simp at h⟩
 | m + 1,h=>by
  obtain ⟨l,hl,hp⟩:=pick_list m (fun q hq=>h q (by omega));obtain ⟨x,hx⟩:=h m (by omega);refine ⟨l ++ [x],by simp [hl],fun q y hy=>?_⟩;rcases Nat.lt_trichotomy q m with hq | hq | hq
  ·rw [List.getElem?_append_left (by omega)] at hy;exact hp q y hy
  ·subst hq;rw [List.getElem?_append_right (by omega),hl,Nat.sub_self] at hy;simp only [List.getElem?_cons_zero,Option.some.injEq] at hy;subst hy;exact hx
  ·rw [List.getElem?_eq_none (by simp;omega)] at hy
   cases hy
theorem elems_list {d m:Nat} (h:Elems w d a2 m):∃ l:List JV,l.length=m∧NdVs 0 L0 w a2 0 l∧∀ j ∈ l,JT d j:=by
 obtain ⟨l,hl,hp⟩:=pick_list (p:=fun q j=>∃ (ad:Addr) (c:Array Value),a2=some ad∧cell7 w ad q c∧NdV 0 L0 w j c∧JT d j) m (fun q hq=>by
  obtain ⟨ad,c,h1,h2,j,h3,h4⟩:=h q hq;exact ⟨j,ad,c,h1,h2,h3,h4⟩)
 refine ⟨l,hl,NdVs.of fun q j hq=>?_,fun j hj=>?_⟩
 ·obtain ⟨ad,c,h1,h2,h3,h4⟩:=hp q j hq;exact ⟨ad,c,h1,rfl,by rw [Nat.zero_add];exact h2,h3⟩
 ·obtain ⟨i,hi,rfl⟩:=List.getElem_of_mem hj;obtain ⟨ad,c,h1,h2,h3,h4⟩:=hp i l[i] (List.getElem?_eq_getElem hi);exact h4
theorem keys_list {m:Nat} (h:KeysOk w a1 m):∃ ks:List ByteArray,ks.length=m∧KsIn 0 L0 w a1 ks∧∀ k ∈ ks,k.size≤20:=by
 obtain ⟨l,hl,hp⟩:=pick_list (p:=fun q (s:ByteArray)=>∃ (ad:Addr),a1=some ad∧w.cell? (ad.add q)=some (.string s)∧s.size≤20) m (fun q hq=>by
  obtain ⟨ad,s,h1,h2,h3⟩:=h q hq;exact ⟨s,ad,h1,h2,h3⟩)
 refine ⟨l,hl,fun q k hq=>?_,fun k hk=>?_⟩
 ·obtain ⟨ad,h1,h2,h3⟩:=hp q k hq;exact ⟨ad,h1,rfl,h2⟩
 ·obtain ⟨i,hi,rfl⟩:=List.getElem_of_mem hk;obtain ⟨ad,h1,h2,h3⟩:=hp i l[i] (List.getElem?_eq_getElem hi);exact h3
theorem tree_done {d:Nat} (hp:PuAny k n f is t m1 m2) (hn:-9223372036854775808≤n∧n≤9223372036854775807) (h1:m1≤8) (h2:m2≤8) (ht:t.size≤60) (hk:KeysOk w a1 m1) (he:Elems w d a2 m2):TreeOk w (d + 1) (ndC k n f is t (.slice a1 m1 c1) (.slice a2 m2 c2)):=by
 rcases hp with ⟨rfl,_,q1,q2,q3,q4,q5⟩ | ⟨rfl,_,q1,q2,q3,q4,q5,q6⟩ | ⟨rfl,_,q1,q2,q3,q4,q5⟩ | ⟨rfl,_,q1,q2,q3,q4,q5⟩ | ⟨rfl,_,q1,q2,q3,q4,q5⟩ | ⟨rfl,_,q1,q2,q3,q4⟩
 ·subst q2 q3 q4 q5;exact ⟨.int n,by simp only [NdV];exact ⟨_,_,_,_,_,q1,rfl⟩,by simp only [JT];exact hn⟩
 ·subst q1 q3 q4 q5 q6;exact ⟨.num f,by simp only [NdV];exact ⟨_,_,_,_,rfl⟩,by simp only [JT];exact q2⟩
 ·subst q1 q3 q4 q5;exact ⟨.tr is,by simp only [NdV];exact ⟨_,_,_,_,_,q2,rfl⟩,by simp only [JT]⟩
 ·subst q1 q3 q4 q5;exact ⟨.txt t,by simp only [NdV];exact ⟨_,_,_,_,_,q2,rfl⟩,by simp only [JT];exact ht⟩
 ·subst q1 q3 q4 q5;obtain ⟨l,hl,hl2,hl3⟩:=elems_list he;subst hl;exact ⟨.arr l,by simp only [NdV];exact ⟨_,_,_,_,_,q2,rfl,hl2⟩,by simp only [JT];exact ⟨h2,hl3⟩⟩
 ·subst q1 q3 q4;obtain ⟨l,hl,hl2,hl3⟩:=elems_list he;obtain ⟨ks,hk1,hk2,hk3⟩:=keys_list hk;subst hl hk1;exact ⟨.map ks l,by simp only [NdV];exact ⟨_,_,_,_,_,q2,rfl,hk2,hl2⟩,by simp only [JT];exact ⟨h1,h2,hk3,hl3⟩⟩
theorem TreeOk.below {d:Nat} {c:Array Value} (h:TreeOk w d c) (b:Below w.heap.size w w1):TreeOk w1 d c:=by
 obtain ⟨j,h1,h2⟩:=h;exact ⟨j,NdV.mv (M:=fun _=>False) ⟨b.os,b.tape,b.output,b.size,fun k hk _=>b.block k hk,fun _ _ _=>rfl⟩ (fun h=>h) j h1,h2⟩
theorem KeysOk.below {m:Nat} (h:KeysOk w a1 m) (b:Below w.heap.size w w1):KeysOk w1 a1 m:=fun q hq=>by
 obtain ⟨ad,s,h1,h2,h3⟩:=h q hq;exact ⟨ad,s,h1,b.cellB h2,h3⟩
def RetB (e:Ending) (C:Prop):Prop:=∃ ok,e=.returned (.bool ok)∧(ok=true→C)
theorem RetB.no {C:Prop}:RetB (.returned (.bool false)) C:=⟨_,rfl,fun h=>by cases h⟩
theorem RetB.yes {C:Prop} (h:C):RetB (.returned (.bool true)) C:=⟨_,rfl,fun _=>h⟩
theorem add7 (a:Addr) (i q:Nat) (hq:0 < q):a.add (i + q)=⟨(a.add i).block,(a.add i).off + q,none⟩:=by
 unfold Addr.add;rw [if_neg (by omega)]
 split
 ·rename_i h;subst h;simp
 ·simp [Nat.add_assoc]
theorem cell7.facts {ad:Addr} {i:Nat} {kv lv:Value} (h:cell7 w ad i (ndC k n f is t kv lv)):w.cell? (ad.add (i * 7))=some (.int .i64 k)∧w.cell? ⟨(ad.add (i * 7)).block,(ad.add (i * 7)).off + 1,none⟩=some (.int .i64 n)∧w.cell? ⟨(ad.add (i * 7)).block,(ad.add (i * 7)).off + 2,none⟩=some (.float .f64 f) ∧
  w.cell? ⟨(ad.add (i * 7)).block,(ad.add (i * 7)).off + 3,none⟩=some (.bool is)∧w.cell? ⟨(ad.add (i * 7)).block,(ad.add (i * 7)).off + 4,none⟩=some (.string t)∧w.cell? ⟨(ad.add (i * 7)).block,(ad.add (i * 7)).off + 5,none⟩=some kv∧w.cell? ⟨(ad.add (i * 7)).block,(ad.add (i * 7)).off + 6,none⟩=some lv:=by
 refine ⟨h 0 (by decide),?_,?_,?_,?_,?_,?_⟩
 ·rw [← add7 _ _ _ (by decide)];exact h 1 (by decide)
 ·rw [← add7 _ _ _ (by decide)];exact h 2 (by decide)
 ·rw [← add7 _ _ _ (by decide)];exact h 3 (by decide)
 ·rw [← add7 _ _ _ (by decide)];exact h 4 (by decide)
 ·rw [← add7 _ _ _ (by decide)];exact h 5 (by decide)
 ·rw [← add7 _ _ _ (by decide)];exact h 6 (by decide)
theorem cell7.mv {M:Nat→Prop} {lab lab1:Lab} {ad:Addr} {i:Nat} {kv lv:Value} (h:cell7 w ad i (ndC k n f is t kv lv)) (m:Mv M w lab w1 lab1) (hl:¬ M (lab ad.block)):cell7 w1 ad i (ndC k n f is t kv lv):=fun q hq=>by
 obtain ⟨v,hv⟩:=ndC_some (k:=k) (n:=n) (f:=f) (b:=is) (s:=t) (kv:=kv) (lv:=lv) q hq;have h1:=h q hq;rw [hv] at h1 ⊢;exact cell_mv m (by rw [add_block];exact hl) h1
theorem cell7.below {ad:Addr} {i:Nat} {kv lv:Value} (h:cell7 w ad i (ndC k n f is t kv lv)) (b:Below w.heap.size w w1):cell7 w1 ad i (ndC k n f is t kv lv):=fun q hq=>by
 obtain ⟨v,hv⟩:=ndC_some (k:=k) (n:=n) (f:=f) (b:=is) (s:=t) (kv:=kv) (lv:=lv) q hq;have h1:=h q hq;rw [hv] at h1 ⊢;exact b.cellB h1
theorem Elems.below {d m:Nat} (h:Elems w d a2 m) (b:Below w.heap.size w w1):Elems w1 d a2 m:=fun q hq=>by
 obtain ⟨ad,c,h1,h2,h3⟩:=h q hq;obtain ⟨j,h4,_⟩:=id h3;obtain ⟨_,_,_,_,_,_,_,_,_,_,_,rfl⟩:=h4.shape;exact ⟨ad,_,h1,cell7.below h2 b,h3.below b⟩
def TreeC (d:Nat):Prop:=∀ (w:World) (c:Array Value),NdR w d c→Calls Tryz.prog 12 #[.agg c,.int .i64 d] w fun e w'=>RetB e (TreeOk w' d c)∧Below w.heap.size w w'
set_option maxRecDepth 100000 in
set_option maxHeartbeats 4000000 in
theorem tree_zero:TreeC 0:=by
 intro w c h;unfold NdR at h;obtain ⟨k,n,f,is,t,a1,m1,c1,a2,m2,c2,rfl,-,-,-,-,-,-,-⟩:=h;have hb:∀ o,Below w.heap.size w (w.alloc o):=fun o=>(Below.refl _ _).alloc (Nat.le_refl _) o
 have HB:=Lib.hid hb;clear hb;unfold ndC;go_enter Tryz.func12,Tryz.ntmps12;go_wp2;go_ret;exact ⟨RetB.no,HB.out _⟩
set_option maxRecDepth 100000 in
set_option maxHeartbeats 4000000 in
theorem tree_succ (d:Nat) (hd:d≤10) (ih:TreeC d):TreeC (d + 1):=by
 intro w c h;unfold NdR at h;obtain ⟨k,n,f,is,t,a1,m1,c1,a2,m2,c2,rfl,n0,n1,ht,h1,h2,hk,hr⟩:=h;have hb:∀ o,Below w.heap.size w (w.alloc o):=fun o=>(Below.refl _ _).alloc (Nat.le_refl _) o
 have hp:=fun w=>pure_c (w:=w) (k:=k) (n:=n) (f:=f) (is:=is) (t:=t) (a1:=a1) (m1:=m1) (c1:=c1) (a2:=a2) (m2:=m2) (c2:=c2)
 have h1x:(m1:Int)≤9223372036854775807:=by unfold maxLen at h1;omega
 have h2x:(m2:Int)≤9223372036854775807:=by unfold maxLen at h2;omega
 have htx:(t.size:Int)≤9223372036854775807:=by unfold maxLen at ht;omega
 have HB:=Lib.hid hb;have HP:=Lib.hid hp;have HK:=Lib.hid hk;have HR:=Lib.hid hr;have HN:=Lib.hid (aI n0 n1);have HI:=Lib.hid ih;have e0:((d:Int) + 1 == 0)=false:=bqf (by omega);clear hb hp hk hr n0 n1 ih;unfold ndC nodV at *;go_enter Tryz.func12,Tryz.ntmps12;by_cases d2:m2≤8
 case neg =>
  have e2:decide ((8:Int) < (m2:Int))=true:=decide_eq_true (by omega);go_wp2;go_ret;exact ⟨RetB.no,HB.out _⟩
 have e2:decide ((8:Int) < (m2:Int))=false:=decide_eq_false (by omega);by_cases d1:m1≤8
 case neg =>
  have e1:decide ((8:Int) < (m1:Int))=true:=decide_eq_true (by omega);go_wp2;go_ret;exact ⟨RetB.no,HB.out _⟩
 have e1:decide ((8:Int) < (m1:Int))=false:=decide_eq_false (by omega);by_cases d3:t.size≤60
 case neg =>
  have e3:decide ((60:Int) < (t.size:Int))=true:=decide_eq_true (by omega);go_wp2;go_ret;exact ⟨RetB.no,HB.out _⟩
 have e3:decide ((60:Int) < (t.size:Int))=false:=decide_eq_false (by omega);go_wp2_with fail;refine (HP.out _).mono ?_;rintro e w1 ⟨⟨ok,rfl,hok⟩,hb1⟩
 cases ok with
 | false =>
  have HX:=Lib.hid ((HB.out _).trans (hb1.mono (by rw [World.size_alloc];omega)));clear hb1;go_wp2;go_ret;exact ⟨RetB.no,HX.out⟩
 | true =>
  have hpo:=hok rfl;have hbx:w1.heap[w.heap.size]?=some (.cells #[.int .i64 k,.int .i64 n,.float .f64 f,.bool is,.string t,.slice a1 m1 c1,.slice a2 m2 c2] 26 (0,0)):=by
   rw [hb1.block w.heap.size (by rw [World.size_alloc];omega)];exact heap_alloc_new w _
  have q5:w1.cell? ⟨w.heap.size,5,none⟩=some (.slice a1 m1 c1):=(blk_cell hbx 5);have hX:=((HB.out _).trans (hb1.mono (by rw [World.size_alloc];omega)));have HX:=Lib.hid hX;have HK1:=Lib.hid (HK.out.below hX);have HPO:=Lib.hid hpo;have HBX:=Lib.hid hbx;clear hb1 hbx hok hpo hX;go_wp2;go_loopw [5] (fun i wr=>∃ j:Nat,i=.int .i64 j∧j≤m1∧wr=w1∧KeysOk w1 a1 j) (fun i _=>m1 - (RowKit.intOf i).toNat)
  case atStart=>exact ⟨0,rfl,Nat.zero_le _,rfl,fun q hq=>by omega⟩
  case round =>
   obtain ⟨j,rfl,hj,hwr,hks⟩:=hrel;have hwr':=hwr.symm;clear hwr;subst hwr';by_cases hjm:j < m1
   ·have hj1:(j:Int) < (m1:Int):=by omega
    have hj0:(0:Int)≤(j:Int):=Int.natCast_nonneg _;rcases HK1.out with h0 | ⟨ad,rfl,hkk⟩
    ·omega
    obtain ⟨s,hs,hss⟩:=hkk j hjm;by_cases hs20:s.size≤20
    ·have d4:decide ((20:Int) < (s.size:Int))=false:=decide_eq_false (by omega);have hks':KeysOk w1 (some ad) (j + 1):=fun q hq=>by
      rcases Nat.lt_or_ge q j with h | h
      ·exact hks q h
      ·exact ⟨ad,s,rfl,by rw [show q=j from by omega];exact hs,hs20⟩
     have HKS:=Lib.hid hks';clear hks hks' hkk;go_wp2;go_roundw
     case rel=>exact ⟨j + 1,by go_num,by omega,trivial,HKS.out⟩
     case measure=>simp [RowKit.intOf];omega
    ·have d4:decide ((20:Int) < (s.size:Int))=true:=decide_eq_true (by omega);clear hks hkk;go_wp2;go_ret;exact ⟨RetB.no,HX.out⟩
   ·have hjm1:¬ ((j:Int) < (m1:Int)):=by omega
    obtain rfl:j=m1:=by omega
    have HKS:=Lib.hid hks;clear hks;have hlw:w.heap.size < w1.heap.size:=lt_of_block HBX.out;go_wp2;go_loopw [6] (fun i wr=>∃ j:Nat,i=.int .i64 j∧j≤m2∧Below w1.heap.size w1 wr∧Elems wr d a2 j) (fun i _=>m2 - (RowKit.intOf i).toNat)
    case atStart=>exact ⟨0,rfl,Nat.zero_le _,Below.refl _ _,fun q hq=>by omega⟩
    case round =>
     obtain ⟨i,rfl,hi,hbw,hel⟩:=hrel;have q6:wr.cell? ⟨w.heap.size,6,none⟩=some (.slice a2 m2 c2):=hbw.cellB (blk_cell HBX.out 6);have hXw:=HX.out.trans (hbw.mono (Nat.le_of_lt hlw));by_cases him:i < m2
     ·have hi1:(i:Int) < (m2:Int):=by omega
      have hi0:(0:Int)≤(i:Int):=Int.natCast_nonneg _;obtain ⟨ad,c',rfl,hc7,hrd⟩:=HR.out i him;obtain ⟨k',n',f',is',t',a1',m1',c1',a2',m2',c2',rfl⟩:∃ (k n:Int) (f:Nat) (is:Bool) (t:ByteArray) (a1:Option Addr) (m1 c1:Nat) (a2:Option Addr) (m2 c2:Nat),c'=ndC k n f is t (.slice a1 m1 c1) (.slice a2 m2 c2):=by
       unfold NdR at hrd;obtain ⟨k,n,f,is,t,a1,m1,c1,a2,m2,c2,h,_⟩:=hrd;exact ⟨_,_,_,_,_,_,_,_,_,_,_,h⟩
      have hc8:=hc7.below hXw;obtain ⟨r0,r1,r2,r3,r4,r5,r6⟩:=hc8.facts;have hcall:=HI.out wr _ (hrd.below hXw);unfold ndC at hcall;have HC:=Lib.hid hcall;have HW:=Lib.hid (aI hbw (aI hel hc8));clear hcall hbw hel hc7 hc8 hrd HP;have hsub:((d:Int) + 1 - 1)=d:=by omega
      go_wp2_with fail
      refine HC.out.mono ?_;rintro e w2 ⟨⟨ok,rfl,hok⟩,hb2⟩
      cases ok with
      | false =>
       have HX2:=Lib.hid (hXw.trans (hb2.mono hXw.size));clear hb2 hXw r0 r1 r2 r3 r4 r5 r6;go_wp2;go_ret;exact ⟨RetB.no,HX2.out⟩
      | true =>
       have hel2:Elems w2 d (some ad) (i + 1):=fun q hq=>by
        rcases Nat.lt_or_ge q i with h | h
        ·exact HW.out.2.1.below hb2 q h
        ·exact ⟨ad,_,rfl,by rw [show q=i from by omega];exact HW.out.2.2.below hb2,hok rfl⟩
       have HE:=Lib.hid (aI hel2 (HW.out.1.trans (hb2.mono HW.out.1.size)));clear hb2 hXw r0 r1 r2 r3 r4 r5 r6 hel2;go_wp2;go_roundw
       case rel=>exact ⟨i + 1,by go_num,by omega,HE.out.2,HE.out.1⟩
       case measure=>simp [RowKit.intOf];omega
     ·have him1:¬ ((i:Int) < (m2:Int)):=by omega
      obtain rfl:i=m2:=by omega
      have hfin:=tree_done (c1:=c1) (c2:=c2) HPO.out HN.out d1 d2 d3 (HKS.out.below hbw) hel;have HF:=Lib.hid (aI hfin hXw);clear hfin hXw hbw hel;go_wp2;go_ret;exact ⟨RetB.yes HF.out.1,HF.out.2⟩
theorem tree_c:∀ d:Nat,d≤10→TreeC d
 | 0,_=>tree_zero
 | d + 1,h=>tree_succ d (by omega) (tree_c d (by omega))
end
end Go.Cf
namespace Go.Cf
open Go.RowKit Go.Conc Go.Proofs
section
variable {k n:Int} {f:Nat} {is:Bool} {t:ByteArray} {a1 a2:Option Addr} {c1 c2:Nat}
theorem app_none (a:Option Addr) (c:Nat) (w:World):(Builtin.append_ #[23,23] 23 #[.slice none 0 0,.slice a 0 c]).run Tryz.prog w=.ok (.slice none 0 0) w:=by
 cases a <;> simp [Builtin.append_,go_sem]
attribute [local go_sem ↓] appX_eq
end
end Go.Cf
namespace Go.Cf
open Go.RowKit Go.Conc Go.Proofs
section
variable {P:Program} {Q:Exit→Act→World→Prop}
theorem getD_set2 (L:Array Bool) (i j:Nat) (hi:i < L.size):(L.setIfInBounds i true).getD j false=if j=i then true else L.getD j false:=by
 rw [gdg,gdg];by_cases h:j=i
 ·subst h;rw [if_pos rfl,Array.getElem?_setIfInBounds_self_of_lt hi];rfl
 ·rw [if_neg h,Array.getElem?_setIfInBounds_ne (fun e=>h e.symm)]
end
attribute [local go_sem ↓] appX_eq
attribute [local go_sem] run_store_flt
section
variable {lab lab1:Lab} {w w1:World} {b:Nat} {W W1 W2:CW} {T T2:ByteArray} {k n:Int} {f:Nat} {is:Bool} {t:ByteArray} {a1 a2:Option Addr} {c1 c2:Nat} {j:JV} {gk gl:Nat}
def wr0 (sv:Value):Array Value:=#[.string ⟨#[]⟩,.int .i64 1,sv,.bool false,.slice none 0 0,.slice none 0 0,.slice none 0 0,.slice none 0 0]
def W0 (style:List UInt8):CW:={ text:=⟨#[]⟩,line:=1,style:=style,bad:=false,known:=[],nv:=0,vals:=[],used:=[],inner:=[] }
theorem results_tct {P:Program} {fn:Func} {t p u:Tmp} {ty:TypeId} {tmps:Array Value} {W:World} {a:Addr} {v:Value} (h:fn.results=#[.tmp t,.cell p ty,.tmp u]) (hp:tmps.getD p undef=.pointer (some a)) (hl:(loadVar ty a).run P W=.ok v W):(results fn tmps).run P W=.ok (.tuple #[tmps.getD t undef,v,tmps.getD u undef]) W:=by
 rw [gdg] at hp;simp only [results,h];simp [asAddr,Result.andThen,hp,hl]
theorem pick_bad (W:CW) (n:Nat):(W.pick n).2.bad=W.bad:=by
 unfold CW.pick
 split <;> rfl
theorem Rw.none (lab:Lab) (w:World) (ℓ e size:Nat):Rw 0 ℓ lab w e size (.slice none 0 0) 0 []:=⟨⟨by simp,.inl ⟨rfl,rfl⟩⟩,fun k hk=>by cases hk⟩
end
end Go.Cf
namespace Go.Cf
open Go.RowKit Go.Conc Go.Proofs
attribute [local go_sem] run_store_flt
section
variable {ℓ ℓ2:Nat} {M:Nat→Prop} {lab lab1:Lab} {w w1:World} {j:JV} {c:Array Value}
set_option maxRecDepth 100000 in
set_option maxHeartbeats 4000000 in
theorem clean_c (h:NdV ℓ lab w j c) (wx:World):Calls Tryz.prog 25 #[.agg c] wx fun e w'=>e=.returned (.bool true)∧Below wx.heap.size wx w':=by
 have hb:∀ o,Below wx.heap.size wx (wx.alloc o):=fun o=>(Below.refl _ _).alloc (Nat.le_refl _) o
 have HB:=Lib.hid hb;clear hb
 cases j with
 | int n =>
  simp only [NdV] at h;obtain ⟨f,a1,c1,a2,c2,hf,rfl⟩:=h;have e1:=hf.1;unfold ndC;go_enter Tryz.func25,Tryz.ntmps25;go_wp2;go_ret;exact ⟨rfl,HB.out _⟩
 | num f =>
  simp only [NdV] at h;obtain ⟨a1,c1,a2,c2,rfl⟩:=h;unfold ndC;go_enter Tryz.func25,Tryz.ntmps25;go_wp2;go_ret;exact ⟨rfl,HB.out _⟩
 | tr b =>
  simp only [NdV] at h;obtain ⟨f,a1,c1,a2,c2,hf,rfl⟩:=h;have e1:=hf.1;unfold ndC;go_enter Tryz.func25,Tryz.ntmps25;go_wp2;go_ret;exact ⟨rfl,HB.out _⟩
 | txt t =>
  simp only [NdV] at h;obtain ⟨f,a1,c1,a2,c2,hf,rfl⟩:=h;have e1:=hf.1;unfold ndC;go_enter Tryz.func25,Tryz.ntmps25;go_wp2;go_ret;exact ⟨rfl,HB.out _⟩
 | arr l =>
  simp only [NdV] at h;obtain ⟨f,a1,c1,a2,c2,hf,rfl,_⟩:=h;have e1:=hf.1;unfold ndC;go_enter Tryz.func25,Tryz.ntmps25;go_wp2;go_ret;exact ⟨rfl,HB.out _⟩
 | map ks l =>
  simp only [NdV] at h;obtain ⟨f,a1,c1,a2,c2,hf,rfl,_⟩:=h;have e1:=hf.1;unfold ndC;go_enter Tryz.func25,Tryz.ntmps25;go_wp2;go_ret;exact ⟨rfl,HB.out _⟩
theorem app_nil2 (g n cap:Nat) (hn:n≤cap) (c:Nat) (w:World):(Builtin.append_ #[23,23] 23 #[.slice (some ⟨g,0,none⟩) n cap,.slice none 0 c]).run Tryz.prog w=.ok (.slice (some ⟨g,0,none⟩) n cap) w:=by
 have h1:¬ cap < n:=by omega
 simp [Builtin.append_,go_sem,h1]
def NewsIn (w:World) (a:Option Addr) (news:List ByteArray):Prop:=∀ i k,news[i]?=some k→∃ ad:Addr,a=some ad∧w.cell? (ad.add i)=some (.string k)
theorem app_str {v:Value} {n:Nat} {xs:List Value} {a:Option Addr} {c:Nat} {news:List ByteArray} (hr:Rw 0 ℓ lab w 9 1 v n xs) (hn:NewsIn w a news) (hmax:n + news.length≤100000000) :
  ∃ v' w',(AppX #[23,23] 23 #[v,.slice a news.length c]).run Tryz.prog w=.ok v' w'∧Rw 0 ℓ (lab.ext w.heap.size ℓ) w' 9 1 v' (n + news.length) (xs ++ news.map .string)∧w.grownBy w' v.ownBlock∧(v'.ownBlock=v.ownBlock ∨ v'.ownBlock=some w.heap.size)∧∃ A C,v'=.slice A (n + news.length) C:=by
 have hown:=hr.1;obtain ⟨i0,hi0,hz0,hz1,hz2⟩:=info_parts info9
 cases a with
 | some ad =>
  obtain ⟨v',w',hrun,ho,hg,_,hat⟩:=run_append_own_at (P:=Tryz.prog) w 0 23 23 9 i0 _ 1 16 Tryz.underlying23 hi0 hz0 hz1 hz2 rfl (by omega) v n xs hown ad news.length c (news.map .string) (by simp) (fun j u hu=>by
   rw [List.getElem?_map,Option.map_eq_some_iff] at hu;obtain ⟨k,hk,rfl⟩:=hu;obtain ⟨ad',e,hc⟩:=hn j k hk;cases e
   exact hc) (fun u hu=>by
   obtain ⟨k,_,rfl⟩:=List.mem_map.1 hu
   rfl) (by unfold maxLen;omega) (by omega) (Nat.zero_le _)
  rw [appX_eq] at hrun;exact ⟨v',w',hrun,hr.appended ho hg (by rcases hat with h | h;exact .inl h;exact .inr ⟨_,h,Nat.le_refl _⟩),hg,hat,own_slice ho⟩
 | none =>
  cases news with
  | cons k r =>
   obtain ⟨ad,e,_⟩:=hn 0 k rfl;cases e
  | nil =>
   have m0:Mv (fun _=>False) w lab w (lab.ext w.heap.size ℓ):=⟨rfl,rfl,rfl,Nat.le_refl _,fun _ _ _=>rfl,fun k hk _=>Lab.ext_lt hk⟩;have hr2:=hr.mv m0 (fun h=>h);have hg:w.grownBy w v.ownBlock:=⟨rfl,rfl,rfl,Nat.le_refl _,fun _ _ _=>rfl⟩;obtain ⟨_,⟨h0,hn0⟩ | ⟨g,cap,cur,hv,_,_,hnc,_⟩⟩:=id hown
   ·subst h0;have hrun:=app_none none c w;rw [appX_eq] at hrun;exact ⟨_,w,hrun,by simpa using hr2,hg,.inl rfl,none,0,by simp [hn0]⟩
   ·subst hv;have hrun:=app_nil2 g n cap hnc c w;rw [appX_eq] at hrun;exact ⟨_,w,hrun,by simpa using hr2,hg,.inl rfl,_,_,rfl⟩
end
mutual
def innK:JV→List ByteArray
 | .map ks l=>ks ++ innKs l
 | .arr l=>innKs l
 | _=>[]
def innKs:List JV→List ByteArray
 | []=>[]
 | j :: r=>innK j ++ innKs r
end
theorem innKs_app:∀ (l:List JV) (j:JV),innKs (l ++ [j])=innKs l ++ innK j
 | [],j=>by simp [innKs]
 | x :: r,j=>by simp [innKs,innKs_app r j]
theorem innKs_take {l:List JV} {q:Nat} {j:JV} (h:l[q]?=some j):innKs (l.take (q + 1))=innKs (l.take q) ++ innK j:=by
 rw [List.take_add_one,h];exact innKs_app _ _
end Go.Cf
