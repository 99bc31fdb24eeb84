/-
  Texts joined: I J L M N Wa Wb T U.
-/
import Derived.Test.YtackodbeohaidaaGreatDoorZq01
import Derived.Laws.Rows
import Derived.Maps.OwnSet
import Derived.Deep.AppendLies
import Derived.Lib.ConvBytes
import Derived.Deep.Cut
namespace Go.Cf
open Go.RowKit Go.Conc Go.Proofs
theorem join_nil (A:Option Addr) (c:Nat) (w:World):Calls Tryz.prog 132 #[.slice A 0 c,.string ByteArray.empty] w fun e w'=>e=.returned (.string ByteArray.empty)∧w'=w:=by
 go_enter Tryz.func132,Tryz.ntmps132;go_wp2;go_ret;exact ⟨rfl,rfl⟩
def LX.emit (L:LX) (t:Nat) (v:ByteArray):LX :=
 { L with q:=L.q ++ [⟨t,v,L.line,(L.pos:Int) - L.ilstart - v.size⟩],cs:=L.cs + 1,start:=L.pos,ilstart:=L.lstart }
def LX.txt (L:LX):ByteArray:=L.inp.extract L.start L.pos
section
variable {base:Nat} {S0:Nat→Prop} {w0 w:World} {b:Nat} {L:LX}
theorem RepV.chan {S:Nat→Prop} {v:Value} {t:Tag} {c:Nat} {buf:Array Value} {cap s r:Nat} {cl tm:Bool} (h:RepV S w v t) (hc:w.heap[c]?=some (.chan cap buf cl s r tm)) (cap':Nat) (buf':Array Value) (cl':Bool) (s' r':Nat) (tm':Bool):RepV S (w.setChan c cap' buf' cl' s' r' tm') v t:=by
 match t,h with
 | none,h=>exact h
 | some (false,n),h=>exact h
 | some (true,n),⟨g,hv,hg,hs⟩ =>
  refine ⟨g,hv,?_,hs⟩;simp only [World.setChan];rw [Array.getElem?_setIfInBounds_ne]
  ·exact hg
  ·intro e;rw [← e,hc] at hg;cases hg
theorem ownsRow_chan {e:TypeId} {size n:Nat} {v:Value} {xs:List Value} {c:Nat} {buf:Array Value} {cap s r:Nat} {cl tm:Bool} (h:w.ownsRow base e size v n xs) (hc:w.heap[c]?=some (.chan cap buf cl s r tm)) (cap':Nat) (buf':Array Value) (cl':Bool) (s' r':Nat) (tm':Bool):(w.setChan c cap' buf' cl' s' r' tm').ownsRow base e size v n xs:=by
 obtain ⟨hx,h0 | ⟨g,cap,cur,hv,hbg,hblk,hrest⟩⟩:=h
 ·exact ⟨hx,.inl h0⟩
 ·refine ⟨hx,.inr ⟨g,cap,cur,hv,hbg,?_,hrest⟩⟩;simp only [World.setChan];rw [Array.getElem?_setIfInBounds_ne]
  ·exact hblk
  ·intro e;rw [← e,hc] at hblk;cases hblk
theorem At.chan (h:At base S0 w0 w b L) (q:List It) (cs cr:Nat):At base S0 w0 (w.setChan L.ch 10 (q.map It.v).toArray false cs cr false) b { L with q:=q,cs:=cs,cr:=cr }:=by
 obtain ⟨S,tv,sv,pv,h1,h2,h3⟩:=h;refine ⟨S,tv,sv,pv,?_,h2.setChan ?_ _ _ _ _ _ _,?_⟩
 ·exact {
   blk:=by simp only [World.setChan];rw [Array.getElem?_setIfInBounds_ne h1.ne_chan];exact h1.blk
   chan:=heap_setChan _ _ _ _ _ _ _ _ (lt_of_block h1.chan)
   stack:=ownsRow_chan h1.stack h1.chan _ _ _ _ _ _
   parts:=ownsRow_chan h1.parts h1.chan _ _ _ _ _ _
   st:=h1.st.chan h1.chan _ _ _ _ _ _
   hb:=h1.hb
   hch:=h1.hch
   hsv:=h1.hsv
   hpv:=h1.hpv
   base:=h1.base
   stv:=h1.stv }
 ·rcases h3 L.ch h1.hch with h | h
  ·exact .inl h
  ·exact .inr h.1
 ·intro k hk;rcases h3 k hk with h | h
  ·exact .inl h
  ·exact .inr ⟨h.1,by rw [size_setChan];exact h.2⟩
theorem At.heapCh (h:At base S0 w0 w b L):w.heap[L.ch]?=some (.chan 10 (L.q.map It.v).toArray false L.cs L.cr false):=by obtain ⟨S,tv,sv,pv,h1,_⟩:=h;exact h1.chan
theorem At.pv (h:At base S0 w0 w b L) (hp:L.parts=[]):∃ A c,w.cell? ⟨b,8,none⟩=some (.slice A 0 c):=by
 obtain ⟨S,tv,sv,pv,h1,_⟩:=h;have hc:=h1.c8;obtain ⟨_,⟨rfl,_⟩ | ⟨g,cap,cur,rfl,_⟩⟩:=h1.parts
 ·exact ⟨none,0,hc⟩
 ·rw [hp] at hc;exact ⟨_,_,hc⟩
theorem via {P:Program} {c:Code} {Q:Exit→Act→World→Prop} {a:Act} {w':World} {L':LX} (h:At base S0 w0 w' b L') (k:∀ W,At base S0 w0 W b L'→c.wp P Q a W):c.wp P Q a w':=k _ h
theorem wpN_send {P:Program} {Q:Exit→Act→World→Prop} {id:Nat} {a:Act} {l:List Oper} (n:Nat) (hm:P.follows .mixedOrders=true) (hB:sendOk l n=true)
  (h:wpStill P (unsent l n).toArray w.drew (fun a'=>Lst P l.toArray Q [n] a' w.drew) (unsent l n) a):wpN P (.region id l.toArray true) Q a w:=wpN_still_send n hm hB h
set_option maxRecDepth 100000 in
set_option maxHeartbeats 800000 in
theorem emit_c (t:Nat) (h:At base S0 w0 w b L) (ok:L.Ok) (hp:L.parts=[]) (hs:L.start≤L.pos) (hq:L.q.length < 10) :
  Calls Tryz.prog 93 #[.pointer (some ⟨b,0,none⟩),i64 t] w fun e w'=>e=.returned (.tuple #[])∧At base S0 w0 w' b (L.emit t L.txt):=by
 obtain ⟨A8,c8n,c8⟩:=h.pv hp;have c0:=h.c0;have c1:=h.c1;have c2:=h.c2;have c4:=h.c4;have c6:=h.c6;have c10:=h.c10;have c11:=h.c11;have f1:=h.free 1;have f11:=h.free 11;have hsm:=ok.small;have hpp:=ok.pos;have hil:=ok.ilstart;have hl0:=ok.line0;have hl1:=ok.line1;have hxs:(L.inp.extract L.start L.pos).size≤1000000:=by simp;omega
 have HQ:=Lib.hid hq;have HP:=Lib.hid hp;clear hq hp;refine calls_of_wpN Tryz.func93 rfl ?_;simp only [Tryz.ntmps93,List.size_toArray,List.length_cons,List.length_nil,Nat.reduceAdd,Nat.reduceSub,Array.replicate_succ,Array.replicate_zero,List.push_toArray,List.append_toArray,List.nil_append,List.cons_append];refine wpN_seq_k (fun K hK=>?_);go_quiet ((go_at_call 132;exact Calls.quiet_of_same (join_nil _ _ _)));go_wp2;refine wpN_seq_k (fun K hK=>?_);go_quiet (fail);go_wp2;refine wpN_seq (wpN_send 12 mixed (by kernel_rfl) ?_);simp only [unsent,List.modify_succ_cons,List.modify_zero_cons]
 repeat still_step
 refine wpStill_nil ?_;refine Lst.send (c:=L.ch) (cap:=10) (buf:=(L.q.map It.v).toArray) (s:=L.cs) (r:=L.cr) (tm:=false) (z:=.tuple #[]) (v:=.agg #[i64 t,.string (L.inp.extract L.start L.pos),i64 L.line,i64 ((L.pos:Int) - L.ilstart - ((L.pos - L.start:Nat):Int))]) rfl rfl rfl h.heapCh (by simpa using HQ.out) ?_;refine Lst.nil ?_;have hsz:(L.txt.size:Int)=((L.pos - L.start:Nat):Int):=by unfold LX.txt;simp;omega
 have hv:It.v ⟨t,L.txt,L.line,(L.pos:Int) - L.ilstart - L.txt.size⟩=.agg #[i64 t,.string (L.inp.extract L.start L.pos),i64 L.line,i64 ((L.pos:Int) - L.ilstart - ((L.pos - L.start:Nat):Int))]:=by rw [hsz];rfl
 have hC:=h.chan (L.q ++ [⟨t,L.txt,L.line,(L.pos:Int) - L.ilstart - L.txt.size⟩]) (L.cs + 1) L.cr;rw [List.map_append,List.map_singleton,hv,← List.push_toArray] at hC;simp only [Exit.then];refine wpN_of_wp (via (At.any hC rfl rfl rfl rfl) (fun W h2=>?_));clear c0 c1 c2 c4 c6 c8 c10 c11 f1 f11 hC hv hsz hxs;have c1:=h2.c1;have c2:=h2.c2;have c10:=h2.c10;have c11:=h2.c11;have f1:=h2.free 1;have f11:=h2.free 11;go_wp2;go_end0;exact ⟨rfl,At.any ((h2.set (L':={ L with q:=L.q ++ [⟨t,L.txt,L.line,(L.pos:Int) - L.ilstart - L.txt.size⟩],cs:=L.cs + 1,start:=L.pos }) 1 (i64 L.pos) (fun _ _ _=>rfl) rfl rfl rfl rfl rfl rfl rfl).set (L':=L.emit t L.txt) 11 (i64 L.lstart) (fun _ _ _=>rfl) rfl rfl rfl rfl rfl rfl rfl) rfl rfl rfl rfl⟩
end
abbrev clo (g:Nat):Value:=.func (.func 125) #[] #[.pointer (some ⟨g,0,none⟩)]
def AtV (base:Nat) (S0:Nat→Prop) (w0 w:World) (b:Nat) (L:LX) (v:Value) (t:Tag):Prop :=
 ∃ S tv sv pv,LexAt base S w b L tv sv pv∧Fr S0 w0 w∧(∀ k,S k→S0 k ∨ (w0.heap.size≤k∧k < w.heap.size))∧RepV S w v t∧∀ g,some g=sv.ownBlock→v ≠ clo g
def LX.psh (L:LX) (n:Nat):LX:={ L with stack:=L.stack ++ [n] }
def LX.stk (L:LX) (st:List Nat):LX:={ L with stack:=st }
def LX.goes (L:LX) (t:Tag):LX:={ L with state:=t }
section
variable {base:Nat} {S0:Nat→Prop} {w0 w:World} {b:Nat} {L:LX}
theorem At.plain (h:At base S0 w0 w b L) (n:Nat):AtV base S0 w0 w b L (fnV n) (some (false,n)):=by
 obtain ⟨S,tv,sv,pv,h1,h2,h3⟩:=h;exact ⟨S,tv,sv,pv,h1,h2,h3,rfl,fun g _ e=>by simp [fnV,clo] at e⟩
theorem At.nil (h:At base S0 w0 w b L):AtV base S0 w0 w b L .nilFunc none:=by
 obtain ⟨S,tv,sv,pv,h1,h2,h3⟩:=h;exact ⟨S,tv,sv,pv,h1,h2,h3,rfl,fun g _ e=>by simp [clo] at e⟩
theorem own_lt {base:Nat} {e:TypeId} {size n:Nat} {v:Value} {xs:List Value} (h:w.ownsRow base e size v n xs) (k:Nat) (hk:v.ownBlock=some k):k < w.heap.size:=by
 obtain ⟨_,⟨h0,_⟩ | ⟨g,cap,cur,hv,_,hblk,_⟩⟩:=h
 ·rw [h0] at hk;cases hk
 ·rw [hv] at hk;simp only [Value.ownBlock,Option.some.injEq] at hk;subst hk;exact lt_of_block hblk
theorem LexAt.wide {S S':Nat→Prop} {tv sv pv:Value} (h:LexAt base S w b L tv sv pv) (hS:∀ k,S k→S' k):LexAt base S' w b L tv sv pv where
 blk:=h.blk
 chan:=h.chan
 stack:=h.stack
 parts:=h.parts
 st:=match L.state,h.st with
  | none,h=>h
  | some (false,_),h=>h
  | some (true,_),⟨g,hv,hg,hs⟩=>⟨g,hv,hg,hS _ hs⟩
 hb:=hS _ h.hb
 hch:=hS _ h.hch
 hsv:=fun k hk=>hS _ (h.hsv k hk)
 hpv:=fun k hk=>hS _ (h.hpv k hk)
 base:=h.base
 stv:=h.stv
theorem skipV_c (h:At base S0 w0 w b L) (n:Nat) :
  Calls Tryz.prog 87 #[.pointer (some ⟨b,0,none⟩),fnV n] w fun e w'=>e=.returned (clo w.heap.size)∧AtV base S0 w0 w' b L (clo w.heap.size) (some (true,n)):=by
 have hpost:AtV base S0 w0 (w.alloc (.cells #[fnV n] 107)) b L (clo w.heap.size) (some (true,n)):=by
  obtain ⟨S,tv,sv,pv,h1,h2,h3⟩:=h;have hbl:Below w.heap.size w (w.alloc (.cells #[fnV n] 107)):=(Below.refl _ _).alloc (Nat.le_refl _) _;refine ⟨fun k=>S k ∨ k=w.heap.size,tv,sv,pv,(h1.below hbl).wide (fun _ h=>.inl h),h2.alloc _,?_,⟨_,rfl,heap_alloc_new w _,.inr rfl⟩,?_⟩
  ·intro k hk;have:=h2.size;rw [World.size_alloc];rcases hk with hk | rfl
   ·rcases h3 k hk with h | h
    ·exact .inl h
    ·exact .inr ⟨h.1,by omega⟩
   ·exact .inr ⟨this,by omega⟩
  ·intro g hg e;have:=own_lt h1.stack g hg.symm;simp only [clo,Value.func.injEq] at e;simp at e
 go_enter Tryz.func87,Tryz.ntmps87;go_wp2;go_ret;exact ⟨rfl,hpost⟩
theorem RepV.set {S:Nat→Prop} {tv sv pv v:Value} {t:Tag} (h:RepV S w v t) (h1:LexAt base S w b L tv sv pv) (i:Nat) (u:Value):RepV S (w.setCell ⟨b,i,none⟩ u) v t:=h.far h1.blk i u
theorem AtV.store {v:Value} {t:Tag} (h:AtV base S0 w0 w b L v t):At base S0 w0 (w.setCell ⟨b,5,none⟩ v) b (L.goes t):=by
 obtain ⟨S,tv,sv,pv,h1,h2,h3,h4,h5⟩:=h;refine ⟨S,v,sv,pv,?_,h2.setCell ?_ _,?_⟩
 ·exact {
   blk:=by rw [blk_setCell h1.blk];rfl
   chan:=by rw [Below.heap_setCell _ _ _ _ h1.ne_chan];exact h1.chan
   stack:=ownsRow_setCell_other h1.stack (own_ne_blk h1.stack h1.blk (by decide)) _
   parts:=ownsRow_setCell_other h1.parts (own_ne_blk h1.parts h1.blk (by decide)) _
   st:=h4.set h1 5 _
   hb:=h1.hb
   hch:=h1.hch
   hsv:=h1.hsv
   hpv:=h1.hpv
   base:=h1.base
   stv:=fun g hg n hn=>h5 g hg }
 ·rcases h3 b h1.hb with h | h
  ·exact .inl h
  ·exact .inr h.1
 ·intro k hk;rcases h3 k hk with h | h
  ·exact .inl h
  ·exact .inr ⟨h.1,by simpa using h.2⟩
theorem AtV.at_ {v:Value} {t:Tag} (h:AtV base S0 w0 w b L v t):At base S0 w0 w b L:=by
 obtain ⟨S,tv,sv,pv,h1,h2,h3,_⟩:=h;exact ⟨S,tv,sv,pv,h1,h2,h3⟩
end
theorem nxt_same (L:LX):L.nxt.stack=L.stack∧L.nxt.parts=L.parts∧L.nxt.q=L.q∧L.nxt.start=L.start∧L.nxt.inp=L.inp∧L.nxt.ilstart=L.ilstart∧L.nxt.ssf=L.ssf∧L.nxt.state=L.state:=by
 unfold LX.nxt
 split
 ·simp
 ·split <;> simp
theorem pk_same (L:LX):L.pk.stack=L.stack∧L.pk.parts=L.parts∧L.pk.q=L.q∧L.pk.start=L.start∧L.pk.inp=L.inp∧L.pk.ilstart=L.ilstart∧L.pk.ssf=L.ssf∧L.pk.state=L.state∧L.pk.pos=L.pos∧L.pk.line=L.line:=by
 unfold LX.pk
 split
 ·simp
 ·split <;> simp
theorem nxt_stack (L:LX):L.nxt.stack=L.stack:=(nxt_same L).1
theorem pk_stack (L:LX):L.pk.stack=L.stack:=(pk_same L).1
theorem nxt_parts (L:LX):L.nxt.parts=L.parts:=(nxt_same L).2.1
theorem pk_parts (L:LX):L.pk.parts=L.parts:=(pk_same L).2.1
theorem nxt_q (L:LX):L.nxt.q=L.q:=(nxt_same L).2.2.1
theorem pk_q (L:LX):L.pk.q=L.q:=(pk_same L).2.2.1
theorem nxt_start (L:LX):L.nxt.start=L.start:=(nxt_same L).2.2.2.1
theorem pk_start (L:LX):L.pk.start=L.start:=(pk_same L).2.2.2.1
theorem pk_pos (L:LX):L.pk.pos=L.pos:=(pk_same L).2.2.2.2.2.2.2.2.1
theorem nxt_pos (L:LX):L.nxt.pos=if L.inp.size≤L.pos then L.pos else L.pos + 1:=by
 unfold LX.nxt
 split
 ·rfl
 ·split <;> rfl
def Goes1 (f:Nat) (L L':LX) (t:Tag):Prop :=
 ∀ (base:Nat) (S0:Nat→Prop) (w0 w:World) (b:Nat),At base S0 w0 w b L →
  Calls Tryz.prog f #[.pointer (some ⟨b,0,none⟩)] w fun e w'=>∃ v,e=.returned v∧AtV base S0 w0 w' b L' v t
structure LX.Rdy (L:LX):Prop where
 parts:L.parts=[]
 start:L.start≤L.pos
 q:L.q.length < 10
theorem LX.Ok.psh {L:LX} (ok:L.Ok) (n:Nat):(L.psh n).Ok:=⟨ok.small,ok.pos,ok.start,ok.width,ok.lstart,ok.ilstart,ok.line,ok.asc⟩
theorem LX.Ok.goes {L:LX} (ok:L.Ok) (t:Tag):(L.goes t).Ok:=⟨ok.small,ok.pos,ok.start,ok.width,ok.lstart,ok.ilstart,ok.line,ok.asc⟩
theorem LX.Ok.emit {L:LX} (ok:L.Ok) (t:Nat) (v:ByteArray):(L.emit t v).Ok:=⟨ok.small,ok.pos,ok.pos,ok.width,ok.lstart,ok.lstart,ok.line,ok.asc⟩
def Enters (f:Nat):Prop:=∀ (args:Array Value) (w:World),(callFunc f args).run Tryz.prog w=.ok (.enter f args) w
inductive Lstep:LX→LX→Prop
 | plain {L L':LX} {f:Nat} {t:Tag} (hs:L.state=some (false,f)) (he:Enters f) (h:Goes1 f L L' t):Lstep L (L'.goes t)
 | skip {L:LX} {f:Nat} (hs:L.state=some (true,f)):Lstep L (L.ign.goes (some (false,f)))
inductive Run:Nat→LX→LX→Prop
 | refl (L:LX):Run 0 L L
 | step {n:Nat} {L L1 L':LX} (hq:L.q=[]) (h:Lstep L L1) (k:Run n L1 L'):Run (n + 1) L L'
theorem Run.trans {n m:Nat} {L L1 L':LX} (h:Run n L L1) (k:Run m L1 L'):Run (n + m) L L':=by
 induction h with
 | refl=>simpa using k
 | step hq h _ ih=>rw [Nat.add_right_comm];exact .step hq h (ih k)
section
variable {P:Program} {Q:Exit→Act→World→Prop} {a:Act} {w:World}
theorem list_rest {l:List Oper} {o:Oper}:wpOps P (o :: l).toArray Q (List.range' 1 l.length)=wpList P (o :: l).toArray Q l :=
 wpOps_eq_wpList l 1 (fun j=>by simp [Nat.add_comm 1 j])
theorem range_head (n:Nat):List.range (n + 1)=0 :: List.range' 1 n:=by rw [List.range_eq_range',List.range'_succ]
theorem wpN_select_default {id:Nat} {l:List Oper} {o:Oper} {c cap s r:Nat} {tm:Bool} {z:Value} (hg:o.guard=none)
  (hr:(execOp a.eval o).run P w=.ok (.comm #[rcase c z] false .select) w) (hc:w.heap[c]?=some (.chan cap #[] false s r tm))
  (h:wpList P (o :: l).toArray Q l (a.put o.dst (.tuple #[goInt (-1),.bool false,z])) w):wpN P (.region id (o :: l).toArray false) Q a w:=by
 refine Lst.region ?_;rw [List.size_toArray,List.length_cons,range_head];refine Lst.select_default (o:=o) rfl hg hr hc (Lst.plain ?_);rw [list_rest];exact h
theorem wpN_select_got {id:Nat} {l:List Oper} {o:Oper} {c cap s r:Nat} {buf:Array Value} {tm cl:Bool} {z:Value} (hg:o.guard=none)
  (hr:(execOp a.eval o).run P w=.ok (.comm #[rcase c z] false .select) w) (hc:w.heap[c]?=some (.chan cap buf cl s r tm)) (hsome:0 < buf.size)
  (h:wpList P (o :: l).toArray Q l (a.put o.dst (.tuple #[goInt 0,.bool true,buf.getD 0 undef])) (w.setChan c cap (buf.extract 1 buf.size) cl s (r + 1) tm)):wpN P (.region id (o :: l).toArray false) Q a w:=by
 refine Lst.region ?_;rw [List.size_toArray,List.length_cons,range_head];refine Lst.select_got (o:=o) rfl hg hr hc hsome (Lst.plain ?_);rw [list_rest];exact h
end
section
variable {base:Nat} {S0:Nat→Prop} {w0 w:World} {b:Nat} {L:LX}
theorem RepV.bound {S:Nat→Prop} {v:Value} {t:Tag} (h:RepV S w v t):RepV (fun k=>S k∧k < w.heap.size) w v t:=by
 match t,h with
 | none,h=>exact h
 | some (false,n),h=>exact h
 | some (true,n),⟨g,hv,hg,hs⟩=>exact ⟨g,hv,hg,hs,lt_of_block hg⟩
theorem At.rebase (h:At base S0 w0 w b L):∃ S:Nat→Prop,At base S w w b L∧(∀ k,S k→k < w.heap.size)∧(∀ k,S k→S0 k ∨ w0.heap.size≤k)∧∀ w' L',At base S w w' b L'→At base S0 w0 w' b L':=by
 obtain ⟨S,tv,sv,pv,h1,h2,h3⟩:=h;have hS:∀ k,(S k∧k < w.heap.size)→S0 k ∨ w0.heap.size≤k:=fun k hk=>(h3 k hk.1).elim .inl fun h=>.inr h.1
 refine ⟨fun k=>S k∧k < w.heap.size,⟨fun k=>S k∧k < w.heap.size,tv,sv,pv,?_,Fr.refl _ _,fun k hk=>.inl hk⟩,fun k hk=>hk.2,hS,?_⟩
 ·exact {
   blk:=h1.blk
   chan:=h1.chan
   stack:=h1.stack
   parts:=h1.parts
   st:=h1.st.bound
   hb:=⟨h1.hb,lt_of_block h1.blk⟩
   hch:=⟨h1.hch,lt_of_block h1.chan⟩
   hsv:=fun k hk=>⟨h1.hsv k hk,own_lt h1.stack k hk⟩
   hpv:=fun k hk=>⟨h1.hpv k hk,own_lt h1.parts k hk⟩
   base:=h1.base
   stv:=h1.stv }
 ·rintro w' L' ⟨S',tv',sv',pv',k1,k2,k3⟩;refine ⟨S',tv',sv',pv',k1,h2.trans k2 hS,?_⟩;intro k hk;rcases k3 k hk with h | h
  ·rcases hS k h with h' | h'
   ·exact .inl h'
   ·exact .inr ⟨h',by have:=k2.size;have:=h.2;omega⟩
  ·exact .inr ⟨by have:=h2.size;omega,h.2⟩
theorem At.kept (h:At base S0 w0 w b L) {g:Nat} {o:Obj} (hg:w0.heap[g]?=some o) (hn:¬ S0 g):w.heap[g]?=some o:=by
 obtain ⟨S,tv,sv,pv,h1,h2,h3⟩:=h;exact h2.blk hg hn
theorem At.c5p (h:At base S0 w0 w b L) {f:Nat} (hs:L.state=some (false,f)):w.cell? ⟨b,5,none⟩=some (fnV f):=by
 obtain ⟨S,tv,sv,pv,h1,h2,h3⟩:=h;have:=h1.st;rw [hs] at this;have h5:=h1.c5;rw [show tv=fnV f from this] at h5;exact h5
theorem At.c5s (h:At base S0 w0 w b L) {f:Nat} (hs:L.state=some (true,f)):∃ g,w.cell? ⟨b,5,none⟩=some (clo g)∧w.heap[g]?=some (.cells #[fnV f] 107 (0,0)):=by
 obtain ⟨S,tv,sv,pv,h1,h2,h3⟩:=h;have:=h1.st;rw [hs] at this;obtain ⟨g,hv,hg,_⟩:=this;have h5:=h1.c5;rw [show tv=clo g from hv] at h5;exact ⟨g,h5,hg⟩
end
def LX.took (L:LX) (q:List It):LX:={ L with q:=q,cr:=L.cr + 1 }
def wpL (P:Program) (c:Code) (Q:Exit→Act→World→Prop) (a:Act) (w:World):Prop :=
 ∀ (b:Frame) (k:List Item) (cs:List Frame),b.kind=.normal→∃ e a' w',Q e a' w'∧Arrives P (lone (b.at a (.code c :: .inLoop c :: k)) cs w) b k cs e a' w'
section
variable {P:Program} {Q:Exit→Act→World→Prop} {a:Act} {w:World}
theorem wpL.loop {c:Code} (h:wpL P c Q a w):wpN P (.loop c) Q a w:=by
 intro b k cs hb;obtain ⟨e,a',w',hq,harr⟩:=h b k cs hb;exact ⟨e,a',w',hq,.of_steps (.one step_loop) harr⟩
theorem wpL_round {c:Code} (h:wpN P c (Exit.then (wpL P c Q) Q) a w):wpL P c Q a w:=by
 intro b k cs hb;obtain ⟨e,a₁,w₁,hq,harr⟩:=h b (.inLoop c :: k) cs hb
 cases e with
 | normal =>
  obtain ⟨e₂,a₂,w₂,hq₂,harr₂⟩:=hq b k cs hb;exact ⟨e₂,a₂,w₂,hq₂,.of_steps (Steps.trans harr (.one step_inLoop)) harr₂⟩
 | exit id=>exact ⟨_,a₁,w₁,hq,.pass (x:=.inLoop c) rfl (fun _ _=>.inl (by simp)) harr⟩
 | goto l=>exact ⟨_,a₁,w₁,hq,.pass (x:=.inLoop c) rfl (fun _ _=>.inl (by simp)) harr⟩
 | ret=>exact ⟨_,a₁,w₁,hq,.pass (x:=.inLoop c) rfl (fun _ _=>.inl (by simp)) harr⟩
 | panic ch=>exact ⟨_,a₁,w₁,hq,.pass (x:=.inLoop c) rfl (fun _ _=>.inl (by simp)) harr⟩
 | outgrown=>exact ⟨_,a₁,w₁,hq,.pass (x:=.inLoop c) rfl (fun _ _=>.inl (by simp)) harr⟩
theorem wpN_seq_select_default {id:Nat} {l:List Oper} {o:Oper} {c cap s r:Nat} {tm:Bool} {z:Value} {y:Code} (a':Act) (hg:o.guard=none)
  (hr:(execOp a.eval o).run P w=.ok (.comm #[rcase c z] false .select) w) (hc:w.heap[c]?=some (.chan cap #[] false s r tm)) (ha:a.put o.dst (.tuple #[goInt (-1),.bool false,z])=a')
  (h:∀ K:Act→World→Prop,(∀ a w,wpN P y Q a w→K a w)→wpList P (o :: l).toArray (Exit.then K Q) l a' w):wpN P (.seq (.region id (o :: l).toArray false) y) Q a w :=
 wpN_seq (wpN_select_default hg hr hc (by rw [ha];exact h _ fun _ _ h=>h))
theorem wpN_seq_select_got {id:Nat} {l:List Oper} {o:Oper} {c cap s r:Nat} {buf:Array Value} {tm cl:Bool} {z:Value} {y:Code} (a':Act) (w':World) (hg:o.guard=none)
  (hr:(execOp a.eval o).run P w=.ok (.comm #[rcase c z] false .select) w) (hc:w.heap[c]?=some (.chan cap buf cl s r tm)) (hsome:0 < buf.size) (ha:a.put o.dst (.tuple #[goInt 0,.bool true,buf.getD 0 undef])=a') (hw:w.setChan c cap (buf.extract 1 buf.size) cl s (r + 1) tm=w')
  (h:∀ K:Act→World→Prop,(∀ a w,wpN P y Q a w→K a w)→wpList P (o :: l).toArray (Exit.then K Q) l a' w'):wpN P (.seq (.region id (o :: l).toArray false) y) Q a w :=
 wpN_seq (wpN_select_got hg hr hc hsome (by rw [ha,hw];exact h _ fun _ _ h=>h))
theorem wpN_mono {c:Code} {Q':Exit→Act→World→Prop} (h:wpN P c Q a w) (hQ:∀ e a w,Q e a w→Q' e a w):wpN P c Q' a w :=
 fun b k cs hb=>let ⟨e,a',w',q,r⟩:=h b k cs hb;⟨e,a',w',hQ _ _ _ q,r⟩
theorem wpL_ind {c:Code} {I:LX→Act→World→Prop} {n:Nat} {L L':LX} (R:Run n L L') (hI:I L a w) (hend:∀ a w,I L' a w→wpN P c (Exit.then (fun _ _=>False) Q) a w)
  (hstep:∀ L L1,L.q=[]→Lstep L L1→∀ a w,I L a w→wpN P c (Exit.then (I L1) Q) a w):wpL P c Q a w:=by
 induction R generalizing a w with
 | refl L=>exact wpL_round (wpN_mono (hend _ _ hI) (fun e a w q=>by cases e <;> first | exact q | exact q.elim))
 | step hq hs k ih=>exact wpL_round (wpN_mono (hstep _ _ hq hs _ _ hI) (fun e a w q=>by cases e <;> first | exact q | exact ih q hend))
end
section
variable {base:Nat} {S0:Nat→Prop} {w0 w:World} {b:Nat} {L L':LX}
def Zero98:Obj:=.cells #[i64 0,.string { data:=#[] },i64 0,i64 0] 98
theorem LexAt.agree {T:Nat→Prop} {tv sv pv:Value} {w1:World} (h:LexAt base T w b L tv sv pv) (hw:∀ k,T k→w1.heap[k]?=w.heap[k]?):LexAt base T w1 b L tv sv pv where
 blk:=(hw b h.hb).trans h.blk
 chan:=(hw L.ch h.hch).trans h.chan
 stack:=by
  obtain ⟨hx,h0 | ⟨g,cap,cur,hv,hbg,hblk,hrest⟩⟩:=h.stack
  ·exact ⟨hx,.inl h0⟩
  ·exact ⟨hx,.inr ⟨g,cap,cur,hv,hbg,(hw g (h.hsv g (by rw [hv];rfl))).trans hblk,hrest⟩⟩
 parts:=by
  obtain ⟨hx,h0 | ⟨g,cap,cur,hv,hbg,hblk,hrest⟩⟩:=h.parts
  ·exact ⟨hx,.inl h0⟩
  ·exact ⟨hx,.inr ⟨g,cap,cur,hv,hbg,(hw g (h.hpv g (by rw [hv];rfl))).trans hblk,hrest⟩⟩
 st:=by
  match ht:L.state,h.st with
  | none,h=>exact h
  | some (false,n),h=>exact h
  | some (true,n),⟨g,hv,hg,hs⟩=>exact ⟨g,hv,(hw g hs).trans hg,hs⟩
 hb:=h.hb
 hch:=h.hch
 hsv:=h.hsv
 hpv:=h.hpv
 base:=h.base
 stv:=h.stv
theorem At.laid (h:At base S0 w0 w b L) (o:Obj):∃ S:Nat→Prop,At base S (w.alloc o) (w.alloc o) b L∧¬ S w.heap.size∧∀ w' w'' L',At base S (w.alloc o) w' b L'→Fr (fun k=>k=w.heap.size) w' w''→At base S0 w0 w'' b L':=by
 obtain ⟨S,tv,sv,pv,h1,h2,h3⟩:=h;obtain ⟨S',hA,hlt,hS,hback⟩:=At.rebase ⟨S,tv,sv,pv,h1,h2,h3⟩;obtain ⟨T,tv,sv,pv,k1,k2,k3⟩:=hA;have hbl:Below w.heap.size w (w.alloc o):=(Below.refl _ _).alloc (Nat.le_refl _) _;have hT:∀ k,T k→S' k:=fun k hk=>(k3 k hk).elim id fun h=>by have:=h.1;have:=h.2;omega
 refine ⟨S',⟨T,tv,sv,pv,k1.below hbl,Fr.refl _ _,fun k hk=>.inl (hT k hk)⟩,fun h=>by have:=hlt _ h;omega,?_⟩;rintro w' w'' L' ⟨U,tv',sv',pv',m1,m2,m3⟩ hfr;refine hback w'' L' ⟨fun k=>U k∧k < w'.heap.size,tv',sv',pv',?_,?_,?_⟩
 ·refine LexAt.agree (w:=w') ?_ ?_
  ·exact {
    blk:=m1.blk
    chan:=m1.chan
    stack:=m1.stack
    parts:=m1.parts
    st:=m1.st.bound
    hb:=⟨m1.hb,lt_of_block m1.blk⟩
    hch:=⟨m1.hch,lt_of_block m1.chan⟩
    hsv:=fun k hk=>⟨m1.hsv k hk,own_lt m1.stack k hk⟩
    hpv:=fun k hk=>⟨m1.hpv k hk,own_lt m1.parts k hk⟩
    base:=m1.base
    stv:=m1.stv }
  ·rintro k ⟨hk,hk2⟩;refine hfr.block k hk2 ?_;rintro rfl;rcases m3 _ hk with h | h
   ·have:=hlt _ h;omega
   ·have:=h.1;rw [World.size_alloc] at this;omega
 ·refine ((Fr.below hbl S').trans m2 (fun _ h=>.inl h)).trans hfr ?_;rintro k rfl;exact .inr (Nat.le_refl _)
 ·rintro k ⟨hk,hk2⟩;rcases m3 k hk with h | h
  ·exact .inl h
  ·exact .inr ⟨by have:=h.1;rw [World.size_alloc] at this;omega,by have:=hfr.size;omega⟩
def NI (base:Nat) (S:Nat→Prop) (W:World) (b r:Nat) (L:LX) (a:Act) (w:World):Prop :=
 (∃ t1 t3 t4 t5 t6 t7 t8 t9 t10 t11 t12 t13 t14 t15 t16 t17 t18 t19 t20 t21:Value,a={ tmps:=#[.pointer (some ⟨b,0,none⟩),t1,.pointer (some ⟨r,0,none⟩),t3,t4,t5,t6,t7,t8,t9,t10,t11,t12,t13,t14,t15,t16,t17,t18,t19,t20,t21],defers:=[] })∧At base S W w b L
theorem At.c5x (h:At base S0 w0 w b L):∃ u,w.cell? ⟨b,5,none⟩=some u:=by obtain ⟨S,tv,sv,pv,h1,_⟩:=h;exact ⟨_,h1.c5⟩
theorem AtV.form {v:Value} {t:Tag} (h:AtV base S0 w0 w b L v t):v=.nilFunc ∨ (∃ n,v=fnV n) ∨ ∃ g,v=clo g:=by
 obtain ⟨S,tv,sv,pv,h1,h2,h3,h4,_⟩:=h
 match t,h4 with
 | none,h=>exact .inl h
 | some (false,n),h=>exact .inr (.inl ⟨n,h⟩)
 | some (true,n),⟨g,hv,_⟩=>exact .inr (.inr ⟨g,hv⟩)
theorem results_cell {P:Program} {fn:Func} {t:Tmp} {ty e:TypeId} {tmps:Array Value} {W:World} {g:Nat} {cs:Array Value} {fr:Nat × Nat} {d:TypeDesc} (h:fn.results=#[.cell t ty]) (hp:tmps.getD t undef=.pointer (some ⟨g,0,none⟩)) (hg:W.heap[g]?=some (.cells cs e fr))
  (hu:P.underlying ty=some d) (hd:(match d with | .struct _ | .array _ _=>true | _=>false)=true) (hi:(P.info? ty).map (·.size)=some cs.size):(results fn tmps).run P W=.ok (.agg cs) W:=by
 have:=run_loadVar_row W g e ty cs fr d hg hu hd hi;rw [gdg] at hp;simp [results,h,hp,asAddr,this]
theorem run_store_fn {P:Program} {W:World} {A:Addr} {f:Fn} {xs ys:Array Value} {m:Mode}:(store A (.func f xs ys) m).run P W=stored P W A (.func f xs ys) m:=run_store P W A _ m rfl
theorem run_store_nofn {P:Program} {W:World} {A:Addr} {m:Mode}:(store A .nilFunc m).run P W=stored P W A .nilFunc m:=run_store P W A _ m rfl
attribute [local go_sem] run_store_fn run_store_nofn
theorem info98:(Tryz.prog.info? 98).map (·.size)=some 4:=by kernel_rfl
set_option maxRecDepth 100000 in
set_option maxHeartbeats 1000000 in
theorem nextItem_c {n:Nat} {x:It} {q:List It} (R:Run n L L') (hx:L'.q=x :: q) (h:At base S0 w0 w b L) :
  Calls Tryz.prog 61 #[.pointer (some ⟨b,0,none⟩)] w fun e w'=>e=.returned x.v∧At base S0 w0 w' b (L'.took q):=by
 obtain ⟨S,hA,hnS,hback⟩:=h.laid Zero98;have hr0:(w.alloc Zero98).heap[w.heap.size]?=some Zero98:=heap_alloc_new w _;refine calls_of_wpN Tryz.func61 rfl ?_;simp only [Tryz.ntmps61,List.size_toArray,List.length_cons,List.length_nil,Nat.reduceAdd,Nat.reduceSub,Array.replicate_succ,Array.replicate_zero,List.push_toArray,List.append_toArray,List.nil_append,List.cons_append];refine wpN_seq_k (fun K hK=>?_);go_wp2;refine wpN_block (wpL.loop ?_);refine wpL_ind (I:=NI base S (w.alloc Zero98) b w.heap.size) R ⟨⟨_,_,_,_,_,_,_,_,_,_,_,_,_,_,_,_,_,_,_,_,rfl⟩,hA⟩ ?_ ?_
 ·rintro a w1 ⟨⟨t1,t3,t4,t5,t6,t7,t8,t9,t10,t11,t12,t13,t14,t15,t16,t17,t18,t19,t20,t21,rfl⟩,hA⟩;have c6:=hA.c6;have c11:=hA.kept hr0 hnS;have hch:=hA.heapCh;rw [hx] at hch;have hB:=hA.chan q L'.cs (L'.cr + 1);refine wpN_block (wpN_seq_k fun K hK=>?_);go_wp2;obtain ⟨xt,xv,xl,xp⟩:=x;obtain ⟨W2,hW2⟩:∃ W2,W2=w1.setChan L'.ch 10 (q.map It.v).toArray false L'.cs (L'.cr + 1) false:=⟨_,rfl⟩;refine wpN_seq_select_got (c:=L'.ch) (cap:=10) (buf:=((It.mk xt xv xl xp :: q).map It.v).toArray) (s:=L'.cs) (r:=L'.cr) (tm:=false) (cl:=false) (z:=.agg #[i64 0,.string { data:=#[] },i64 0,i64 0]) { tmps:=#[.pointer (some ⟨b,0,none⟩),t1,.pointer (some ⟨w.heap.size,0,none⟩),t3,.pointer (some ⟨b,0,none⟩),.pointer (some ⟨b,0,none⟩),.pointer (some ⟨b,6,none⟩),.chan (some L'.ch),.tuple #[.int .i64 0,.bool true,.agg #[i64 xt,.string xv,i64 xl,i64 xp]],t9,t10,t11,t12,t13,t14,t15,t16,t17,t18,t19,t20,t21],defers:=[] } W2 rfl (by kernel_rfl) hch (by simp) rfl (by rw [show ((It.mk xt xv xl xp :: q).map It.v).toArray.extract 1 ((It.mk xt xv xl xp :: q).map It.v).toArray.size=(q.map It.v).toArray from (by simp only [List.map_cons,List.size_toArray,List.length_cons];simp [List.take_of_length_le]),hW2]) (fun K hK=>?_);rw [← hW2] at hB;have c11:=hB.kept hr0 hnS;have hr2:=lt_of_block c11;have hp:Fr (fun k=>k=w.heap.size) W2 (W2.alloc (Obj.cells #[Value.int IntKind.i64 xt,Value.string xv,Value.int IntKind.i64 xl,Value.int IntKind.i64 xp] 98)):=(Fr.refl _ _).alloc _;have c12:(W2.alloc (Obj.cells #[Value.int IntKind.i64 xt,Value.string xv,Value.int IntKind.i64 xl,Value.int IntKind.i64 xp] 98)).heap[w.heap.size]?=some (.cells #[i64 0,.string { data:=#[] },i64 0,i64 0] 98 (0,0)):=(((Below.refl _ W2).alloc (Nat.le_refl _) _).block _ hr2).trans c11;have d0:W2.cell? ⟨w.heap.size,0,none⟩=some (.int .i64 0):=blk_cell c11 0;have d1:W2.cell? ⟨w.heap.size,1,none⟩=some (.string { data:=#[] }):=blk_cell c11 1;have d2:W2.cell? ⟨w.heap.size,2,none⟩=some (.int .i64 0):=blk_cell c11 2;have d3:W2.cell? ⟨w.heap.size,3,none⟩=some (.int .i64 0):=blk_cell c11 3;have e0:W2.frozen? ⟨w.heap.size,0,none⟩=false:=blk_free c11 0;have e1:W2.frozen? ⟨w.heap.size,1,none⟩=false:=blk_free c11 1;have e2:W2.frozen? ⟨w.heap.size,2,none⟩=false:=blk_free c11 2;have e3:W2.frozen? ⟨w.heap.size,3,none⟩=false:=blk_free c11 3;have hne:w.heap.size ≠ W2.heap.size:=by omega
  have HC:=Lib.hid c11;clear c6 c11 c12 hch hr0 hA hW2 hx;go_wp2;refine wpN_block (wpN_of_wp ?_);go_wp2;have c13:=(((Below.refl _ _).alloc (Nat.le_refl _) (Obj.cells #[Value.int IntKind.i64 xt,Value.string xv,Value.int IntKind.i64 xl,Value.int IntKind.i64 xp] 98)).block _ (by simpa using hr2)).trans (blk_setCell (blk_setCell (blk_setCell (blk_setCell HC.out 0 (.int .i64 xt)) 1 (.string xv)) 2 (.int .i64 xl)) 3 (.int .i64 xp));refine bodyPost_ret (results_cell rfl rfl c13 Tryz.underlying98 rfl info98) rfl ?_;refine ⟨rfl,hback W2 _ (L'.took q) hB ?_⟩;exact (((((Fr.refl (fun k=>k=w.heap.size) W2).setCell (.inl rfl) _).setCell (.inl rfl) _).setCell (.inl rfl) _).setCell (.inl rfl) _).alloc _
 ·rintro L L1 hq hs a w1 ⟨⟨t1,t3,t4,t5,t6,t7,t8,t9,t10,t11,t12,t13,t14,t15,t16,t17,t18,t19,t20,t21,rfl⟩,hA⟩;have c6:=hA.c6;have hch:=hA.heapCh;rw [hq] at hch;refine wpN_block (wpN_seq_k fun K hK=>?_);go_wp2;refine wpN_seq_select_default (c:=L.ch) (cap:=10) (s:=L.cs) (r:=L.cr) (tm:=false) (z:=.agg #[i64 0,.string { data:=#[] },i64 0,i64 0]) { tmps:=#[.pointer (some ⟨b,0,none⟩),t1,.pointer (some ⟨w.heap.size,0,none⟩),t3,.pointer (some ⟨b,0,none⟩),.pointer (some ⟨b,0,none⟩),.pointer (some ⟨b,6,none⟩),.chan (some L.ch),.tuple #[.int .i64 (-1),.bool false,.agg #[i64 0,.string { data:=#[] },i64 0,i64 0]],t9,t10,t11,t12,t13,t14,t15,t16,t17,t18,t19,t20,t21],defers:=[] } rfl (by kernel_rfl) hch rfl (fun K hK=>?_);go_wp2;refine wpN_block (wpN_of_wp ?_)
  cases hs with
  | plain hst he hg =>
   have c5:=hA.c5p hst;have HR:=Lib.hid hst;have HX:=Lib.hid hx;have HQ:=Lib.hid hq;clear hst hx hq;go_wp2_with fail;rw [he,Oper.upon_enter];refine (hg _ _ _ _ _ hA).mono ?_;rintro e w2 ⟨v,rfl,hv⟩;have f5:=hv.at_.free 5;obtain ⟨u,c5⟩:=hv.at_.c5x;have hs:=hv.store;rcases hv.form with rfl | ⟨m,rfl⟩ | ⟨m,rfl⟩ <;>
   ·clear hv he hg;simp only [fnV] at hs ⊢;go_wp2;exact ⟨⟨_,_,_,_,_,_,_,_,_,_,_,_,_,_,_,_,_,_,_,_,rfl⟩,hs⟩
  | @skip f hst =>
   obtain ⟨g,c5,hg⟩:=hA.c5s hst;have HR:=Lib.hid hst;have HX:=Lib.hid hx;have HQ:=Lib.hid hq;clear hst hx hq;go_wp2_with fail;refine (skip1_c hA _ _ hg).mono ?_;rintro e w2 ⟨rfl,hv⟩;have f5:=hv.free 5;obtain ⟨u,c5⟩:=hv.c5x;have hs:=(hv.plain f).store;clear hv;simp only [fnV] at hs ⊢;go_wp2;exact ⟨⟨_,_,_,_,_,_,_,_,_,_,_,_,_,_,_,_,_,_,_,_,rfl⟩,hs⟩
end
end Go.Cf
namespace Go.Cf
open Go.RowKit Go.Conc Go.Proofs
abbrev Lab:=Nat→Nat
def Lab.ext (lab:Lab) (n ℓ:Nat):Lab:=fun k=>if k < n then lab k else ℓ
structure Mv (M:Nat→Prop) (w:World) (lab:Lab) (w':World) (lab':Lab):Prop where
 os:w'.os=w.os
 tape:w'.tape=w.tape
 output:w'.output=w.output
 size:w.heap.size≤w'.heap.size
 block:∀ k,k < w.heap.size→¬ M (lab k)→w'.heap[k]?=w.heap[k]?
 lab:∀ k,k < w.heap.size→¬ M (lab k)→lab' k=lab k
section
variable {M M':Nat→Prop} {w w1 w2:World} {lab lab1 lab2:Lab}
theorem Mv.refl (M:Nat→Prop) (w:World) (lab:Lab):Mv M w lab w lab:=⟨rfl,rfl,rfl,Nat.le_refl _,fun _ _ _=>rfl,fun _ _ _=>rfl⟩
theorem Mv.trans (h:Mv M w lab w1 lab1) (k:Mv M' w1 lab1 w2 lab2) (hM:∀ x,M' x→M x):Mv M w lab w2 lab2 :=
 ⟨k.os.trans h.os,k.tape.trans h.tape,k.output.trans h.output,Nat.le_trans h.size k.size,
  fun x hx hn=>(k.block x (Nat.lt_of_lt_of_le hx h.size) (fun hm=>hn (by rw [← h.lab x hx hn];exact hM _ hm))).trans (h.block x hx hn),
  fun x hx hn=>(k.lab x (Nat.lt_of_lt_of_le hx h.size) (fun hm=>hn (by rw [← h.lab x hx hn];exact hM _ hm))).trans (h.lab x hx hn)⟩
theorem Mv.mono (h:Mv M w lab w1 lab1) (hM:∀ x,M x→M' x):Mv M' w lab w1 lab1:=⟨h.os,h.tape,h.output,h.size,fun x hx hn=>h.block x hx fun hm=>hn (hM _ hm),fun x hx hn=>h.lab x hx fun hm=>hn (hM _ hm)⟩
theorem Lab.ext_lt {lab:Lab} {n ℓ k:Nat} (h:k < n):lab.ext n ℓ k=lab k:=if_pos h
theorem Lab.ext_ge {lab:Lab} {n ℓ k:Nat} (h:n≤k):lab.ext n ℓ k=ℓ:=if_neg (by omega)
theorem Mv.alloc (w:World) (lab:Lab) (o:Obj) (ℓ:Nat):Mv M w lab (w.alloc o) (lab.ext w.heap.size ℓ) :=
 ⟨rfl,rfl,rfl,by rw [World.size_alloc];omega,fun k hk _=>((Below.refl _ w).alloc (Nat.le_refl _) o).block k hk,fun _ hk _=>Lab.ext_lt hk⟩
theorem Mv.drewN (h:Mv M w lab w1 lab1) (n:Nat):Mv M w lab (w1.drewN n) lab1:=⟨h.os,h.tape,h.output,h.size,h.block,h.lab⟩
theorem Mv.setCell (w:World) (lab:Lab) (a:Addr) (u:Value) (hM:M (lab a.block)):Mv M w lab (w.setCell a u) lab :=
 ⟨rfl,rfl,rfl,by simp [World.setCell],fun k hk hn=>Below.heap_setCell w a u k (fun e=>hn (by rw [e];exact hM)),fun _ _ _=>rfl⟩
theorem Mv.grown {row:Option Nat} (hg:w.grownBy w1 row) (lab:Lab) (ℓ:Nat) (hM:∀ k,row=some k→M (lab k)):Mv M w lab w1 (lab.ext w.heap.size ℓ) :=
 ⟨hg.os,hg.tape,hg.output,hg.size,fun k hk hn=>hg.block k hk (fun e=>hn (hM k e.symm)),fun _ hk _=>Lab.ext_lt hk⟩
theorem Mv.below (h:Below w.heap.size w w1) (lab:Lab) (ℓ:Nat):Mv M w lab w1 (lab.ext w.heap.size ℓ) :=
 ⟨h.os,h.tape,h.output,h.size,fun k hk _=>h.block k hk,fun _ hk _=>Lab.ext_lt hk⟩
theorem Mv.toBelow (h:Mv M w lab w1 lab1) {B:Nat} (hB:B≤w.heap.size) (hb:∀ k,k < B→¬ M (lab k)):Below B w w1 :=
 ⟨h.os,h.tape,h.output,h.size,fun k hk=>h.block k (by omega) (hb k hk)⟩
end
def Cl (ℓ:Nat) (lab:Lab) (w:World) (g:Nat) (cs:Array Value) (t:TypeId):Prop:=w.heap[g]?=some (.cells cs t (0,0))∧lab g=ℓ
def Rw (B ℓ:Nat) (lab:Lab) (w:World) (e size:Nat) (v:Value) (n:Nat) (xs:List Value):Prop:=w.ownsRow B e size v n xs∧∀ k,v.ownBlock=some k→lab k=ℓ
abbrev anyR (v:Value):Option (DataW Value × List MemPlace):=some (.held v,[])
inductive JV where
 | int (n:Int)
 | num (f:Nat)
 | tr (b:Bool)
 | txt (s:ByteArray)
 | arr (l:List JV)
 | map (ks:List ByteArray) (l:List JV)
abbrev Ent:=ByteArray × JV × Value
def entD (t:List Ent):DataW Value:=.map (t.map fun x=>(.string x.1.data.toList,.held x.2.2))
def Mp (ℓ:Nat) (lab:Lab) (w:World) (b:Nat) (t:List Ent):Prop:=w.ownsMap Tryz.prog 9 anyR b t.length (entD t)∧lab b=ℓ
section
variable {B ℓ:Nat} {M:Nat→Prop} {w w1:World} {lab lab1:Lab}
theorem Cl.mv {g:Nat} {cs:Array Value} {t:TypeId} (h:Cl ℓ lab w g cs t) (m:Mv M w lab w1 lab1) (hM:¬ M ℓ):Cl ℓ lab1 w1 g cs t :=
 ⟨(m.block g (lt_of_block h.1) (by rw [h.2];exact hM)).trans h.1,(m.lab g (lt_of_block h.1) (by rw [h.2];exact hM)).trans h.2⟩
theorem Rw.mv {e size n:Nat} {v:Value} {xs:List Value} (h:Rw B ℓ lab w e size v n xs) (m:Mv M w lab w1 lab1) (hM:¬ M ℓ):Rw B ℓ lab1 w1 e size v n xs:=by
 obtain ⟨⟨hx,h0 | ⟨g,cap,cur,hv,hbg,hblk,hrest⟩⟩,hl⟩:=h
 ·exact ⟨⟨hx,.inl h0⟩,fun k hk=>by rw [h0.1] at hk;cases hk⟩
 ·have hg:=hl g (by rw [hv];rfl);refine ⟨⟨hx,.inr ⟨g,cap,cur,hv,hbg,(m.block g (lt_of_block hblk) (by rw [hg];exact hM)).trans hblk,hrest⟩⟩,fun k hk=>?_⟩;rw [hv] at hk;simp only [Value.ownBlock,Option.some.injEq] at hk;subst hk;exact (m.lab g (lt_of_block hblk) (by rw [hg];exact hM)).trans hg
theorem Mp.mv {b:Nat} {t:List Ent} (h:Mp ℓ lab w b t) (m:Mv M w lab w1 lab1) (hM:¬ M ℓ):Mp ℓ lab1 w1 b t:=by
 obtain ⟨⟨es,clock,hb,F,hs,hD⟩,hl⟩:=h;exact ⟨⟨es,clock,(m.block b (lt_of_block hb) (by rw [hl];exact hM)).trans hb,F,hs,hD⟩,(m.lab b (lt_of_block hb) (by rw [hl];exact hM)).trans hl⟩
mutual
def isJ (B:Nat) (lab:Lab) (w:World):JV→Value→Prop
 | .int n,v=>v=.iface 2 (.int .i64 n)
 | .num f,v=>v=.iface 22 (.float .f64 f)
 | .tr b,v=>v=.iface 4 (.bool b)
 | .txt s,v=>v=.iface 9 (.string s)
 | .arr l,v=>∃ s xs,v=.iface 75 s∧Rw B 6 lab w 20 1 s l.length xs∧isJs B lab w l xs
 | .map ks l,v=>∃ b t,v=.iface 61 (.map (some b))∧Mp 6 lab w b t∧t.map (·.1)=ks∧t.map (·.2.1)=l∧isJs B lab w l (t.map (·.2.2))
def isJs (B:Nat) (lab:Lab) (w:World):List JV→List Value→Prop
 | [],[]=>True
 | j :: js,x :: xs=>isJ B lab w j x∧isJs B lab w js xs
 | _,_=>False
end
mutual
theorem isJ.mv (m:Mv M w lab w1 lab1) (hM:¬ M 6):∀ (j:JV) (v:Value),isJ B lab w j v→isJ B lab1 w1 j v
 | .int n,v,h=>h
 | .num n,v,h=>h
 | .tr n,v,h=>h
 | .txt n,v,h=>h
 | .arr l,v,h=>by
  simp only [isJ] at h ⊢;obtain ⟨s,xs,hv,hr,hj⟩:=h;exact ⟨s,xs,hv,hr.mv m hM,isJs.mv m hM l xs hj⟩
 | .map ks l,v,h=>by
  simp only [isJ] at h ⊢;obtain ⟨b,t,hv,hr,h1,h2,hj⟩:=h;exact ⟨b,t,hv,hr.mv m hM,h1,h2,isJs.mv m hM l _ hj⟩
theorem isJs.mv (m:Mv M w lab w1 lab1) (hM:¬ M 6):∀ (l:List JV) (xs:List Value),isJs B lab w l xs→isJs B lab1 w1 l xs
 | [],[],h=>h
 | j :: js,x :: xs,h=>by
  simp only [isJs] at h ⊢;exact ⟨isJ.mv m hM j x h.1,isJs.mv m hM js xs h.2⟩
 | [],_ :: _,h=>by simp [isJs] at h
 | _ :: _,[],h=>by simp [isJs] at h
end
def Lx (B:Nat) (lab:Lab) (w:World) (b:Nat) (L:LX):Prop:=∃ tv sv pv,LexAt B (fun k=>lab k=1∧k < w.heap.size) w b L tv sv pv
variable {b:Nat} {L L':LX}
theorem RepV.wide {S S':Nat→Prop} {v:Value} {t:Tag} (h:RepV S w v t) (hS:∀ k,S k→S' k):RepV S' w v t:=by
 match t,h with
 | none,h=>exact h
 | some (false,n),h=>exact h
 | some (true,n),⟨g,hv,hg,hs⟩=>exact ⟨g,hv,hg,hS _ hs⟩
theorem Lx.mv (h:Lx B lab w b L) (m:Mv M w lab w1 lab1) (hM:¬ M 1):Lx B lab1 w1 b L:=by
 obtain ⟨tv,sv,pv,h⟩:=h;refine ⟨tv,sv,pv,LexAt.wide (h.agree (fun k hk=>m.block k hk.2 (by rw [hk.1];exact hM))) ?_⟩;intro k hk;exact ⟨(m.lab k hk.2 (by rw [hk.1];exact hM)).trans hk.1,by have:=m.size;omega⟩
theorem Lx.at (h:Lx B lab w b L):At B (fun k=>lab k=1∧k < w.heap.size) w w b L:=by
 obtain ⟨tv,sv,pv,h⟩:=h;exact ⟨_,tv,sv,pv,h,Fr.refl _ _,fun k hk=>.inl hk⟩
theorem Lx.back (h:At B (fun k=>lab k=1∧k < w.heap.size) w w1 b L):Lx B (lab.ext w.heap.size 1) w1 b L∧Mv (·=1) w lab w1 (lab.ext w.heap.size 1):=by
 obtain ⟨S,tv,sv,pv,h1,h2,h3⟩:=h;refine ⟨⟨tv,sv,pv,?_⟩,⟨h2.os,h2.tape,h2.output,h2.size,fun k hk hn=>h2.block k hk (fun e=>hn e.1),fun _ hk _=>Lab.ext_lt hk⟩⟩;have hS:∀ k,(S k∧k < w1.heap.size)→(lab.ext w.heap.size 1 k=1∧k < w1.heap.size):=by
  rintro k ⟨hk,hlt⟩;refine ⟨?_,hlt⟩;rcases h3 k hk with h | h
  ·rw [Lab.ext_lt h.2];exact h.1
  ·exact Lab.ext_ge h.1
 refine LexAt.wide (S:=fun k=>S k∧k < w1.heap.size) ?_ hS
 exact {
  blk:=h1.blk
  chan:=h1.chan
  stack:=h1.stack
  parts:=h1.parts
  st:=h1.st.bound
  hb:=⟨h1.hb,lt_of_block h1.blk⟩
  hch:=⟨h1.hch,lt_of_block h1.chan⟩
  hsv:=fun k hk=>⟨h1.hsv k hk,own_lt h1.stack k hk⟩
  hpv:=fun k hk=>⟨h1.hpv k hk,own_lt h1.parts k hk⟩
  base:=h1.base
  stv:=h1.stv }
end
inductive CJ where
 | map (m:List (ByteArray × JV))
 | arr (l:List JV)
def CAt (B ℓ:Nat) (lab:Lab) (w:World):CJ→Value→Prop
 | .map m,v=>∃ b t,v=.iface 61 (.map (some b))∧Mp ℓ lab w b t∧t.map (fun x=>(x.1,x.2.1))=m∧isJs B lab w (t.map (·.2.1)) (t.map (·.2.2))
 | .arr l,v=>∃ s xs,v=.iface 75 s∧Rw B ℓ lab w 20 1 s l.length xs∧isJs B lab w l xs
def CsAt (B:Nat) (lab:Lab) (w:World):List CJ→List Value→Prop
 | [],[]=>True
 | c :: cs,v :: vs=>CAt B (10 + cs.length) lab w c v∧CsAt B lab w cs vs
 | _,_=>False
structure PX where
 L:LX
 cx:List CJ
 ks:List ByteArray
structure PK where
 p:Nat
 b:Nat
 mp:Nat
 iv:Value
 ev:Nat
 ped:Bool
def PK.cells (K:PK) (top cv kv:Value):Array Value :=
 #[.map (some K.mp),.pointer (some ⟨K.b,0,none⟩),top,cv,kv,K.iv,.string { data:=#[] },.bool K.ped,.map (some K.ev)]
structure PAtX (B:Nat) (lab:Lab) (w:World) (K:PK) (X:PX) (top cv kv:Value) (vs:List Value):Prop where
 cl:Cl 2 lab w K.p (K.cells top cv kv) 79
 lx:Lx B lab w K.b X.L
 cv:Rw B 3 lab w 20 1 cv vs.length vs.reverse
 kv:Rw B 4 lab w 9 1 kv X.ks.length (X.ks.map Value.string)
 cs:CsAt B lab w X.cx vs
 top:vs.head?=some top ∨ vs=[]
 root:∀ v,vs.getLast?=some v→v=.iface 61 (.map (some K.mp))
def PAt (B:Nat) (lab:Lab) (w:World) (K:PK) (X:PX):Prop:=∃ top cv kv vs,PAtX B lab w K X top cv kv vs
abbrev PM (x:Nat):Prop:=x ≠ 0∧x ≠ 6∧x ≠ 7
section
variable {B:Nat} {lab lab1:Lab} {w w1:World} {K:PK} {X:PX} {M:Nat→Prop}
theorem CAt.mv {ℓ:Nat} (m:Mv M w lab w1 lab1) (hℓ:¬ M ℓ) (h6:¬ M 6) {c:CJ} {v:Value} (h:CAt B ℓ lab w c v):CAt B ℓ lab1 w1 c v:=by
 cases c with
 | map l=>obtain ⟨b,t,h1,h2,h3,h4⟩:=h;exact ⟨b,t,h1,h2.mv m hℓ,h3,h4.mv m h6 _ _⟩
 | arr l=>obtain ⟨s,xs,h1,h2,h3⟩:=h;exact ⟨s,xs,h1,h2.mv m hℓ,h3.mv m h6 _ _⟩
theorem CsAt.mv (m:Mv M w lab w1 lab1) (h6:¬ M 6):∀ {cs:List CJ} {vs:List Value},(∀ i,i < cs.length→¬ M (10 + i))→CsAt B lab w cs vs→CsAt B lab1 w1 cs vs
 | [],[],_,h=>h
 | c :: cs,v :: vs,hl,h=>⟨h.1.mv m (hl _ (by simp)) h6,h.2.mv m h6 (fun i hi=>hl i (by simp;omega))⟩
 | [],_ :: _,_,h=>h.elim
 | _ :: _,[],_,h=>h.elim
theorem info20:(Tryz.prog.info? 20).map (fun i=>(i.zero,i.size,i.bytes))=some (some .nilIface,1,16):=by kernel_rfl
theorem info9:(Tryz.prog.info? 9).map (fun i=>(i.zero,i.size,i.bytes))=some (some (.string { data:=#[] }),1,16):=by kernel_rfl
theorem Cl.cell {ℓ g:Nat} {cs:Array Value} {t:TypeId} (h:Cl ℓ lab w g cs t) (i:Nat):w.cell? ⟨g,i,none⟩=cs[i]?:=blk_cell h.1 i
theorem Cl.free {ℓ g:Nat} {cs:Array Value} {t:TypeId} (h:Cl ℓ lab w g cs t) (i:Nat):w.frozen? ⟨g,i,none⟩=false:=blk_free h.1 i
theorem Cl.set {ℓ g:Nat} {cs:Array Value} {t:TypeId} (h:Cl ℓ lab w g cs t) (i:Nat) (u:Value):Cl ℓ lab (w.setCell ⟨g,i,none⟩ u) g (cs.setIfInBounds i u) t:=⟨blk_setCell h.1 i u,h.2⟩
theorem Rw.appended {ℓ e size n n':Nat} {v v1:Value} {xs ys:List Value} (h:Rw B ℓ lab w e size v n xs) (ho:w1.ownsRow B e size v1 n' ys) (_hg:w.grownBy w1 v.ownBlock) (hat:v1.ownBlock=v.ownBlock ∨ ∃ b,v1.ownBlock=some b∧w.heap.size≤b) :
  Rw B ℓ (lab.ext w.heap.size ℓ) w1 e size v1 n' ys:=by
 refine ⟨ho,fun k hk=>?_⟩;rcases hat with e | ⟨b,e,hb⟩
 ·rw [e] at hk;have hlt:=(h.1.lt k hk).2;rw [Lab.ext_lt hlt];exact h.2 k hk
 ·rw [hk] at e
  cases e
  exact Lab.ext_ge hb
set_option maxHeartbeats 400000 in
theorem pushKey_c (h:PAt B lab w K X) (hB:B≤w.heap.size) (hlen:X.ks.length≤1000000) (s:ByteArray) :
  Calls Tryz.prog 64 #[.pointer (some ⟨K.p,0,none⟩),.string s] w fun e w'=>e=.returned (.tuple #[])∧∃ lab',PAt B lab' w' K { X with ks:=X.ks ++ [s] }∧Mv PM w lab w' lab':=by
 obtain ⟨top,cv,kv,vs,h⟩:=h;have c4:w.cell? ⟨K.p,4,none⟩=some kv:=h.cl.cell 4;have hown:=h.kv.1;go_enter Tryz.func64,Tryz.ntmps64;go_wp2_with (at_builtin;refine app_one B rfl _ _ 23 9 (.string { data:=#[] }) 1 16 rfl Tryz.underlying23 info9 rfl (by decide) (by decide) kv X.ks.length (X.ks.map Value.string) [.string s] rfl rfl rfl (by simp;rfl) hown hB (by omega) ?_);intro v1 w1 hown1 hg1 hat1;have m1:Mv (·=4) w lab w1 (lab.ext w.heap.size 4):=Mv.grown hg1 lab 4 (fun k hk=>h.kv.2 k hk);have hcl:=h.cl.mv m1 (by decide);have c4':w1.cell? ⟨K.p,4,none⟩=some kv:=hcl.cell 4;have f4':w1.frozen? ⟨K.p,4,none⟩=false:=hcl.free 4;have m2:Mv (·=2) w1 (lab.ext w.heap.size 4) (w1.setCell ⟨K.p,4,none⟩ v1) (lab.ext w.heap.size 4):=Mv.setCell _ _ _ _ hcl.2;have key:PAt B (lab.ext w.heap.size 4) (w1.setCell ⟨K.p,4,none⟩ v1) K { X with ks:=X.ks ++ [s] }:=by
  refine ⟨top,cv,v1,vs,?_⟩
  exact {
   cl:=hcl.set 4 v1
   lx:=(h.lx.mv m1 (by decide)).mv m2 (by decide)
   cv:=(h.cv.mv m1 (by decide)).mv m2 (by decide)
   kv:=by
    have:=(h.kv.appended hown1 hg1 hat1).mv m2 (by decide);simpa using this
   cs:=(h.cs.mv m1 (by decide) (fun i _=>by omega)).mv m2 (by decide) (fun i _=>by omega)
   top:=h.top
   root:=h.root }
 have mm:Mv PM w lab (w1.setCell ⟨K.p,4,none⟩ v1) (lab.ext w.heap.size 4):=(m1.mono (M':=PM) (by rintro x rfl;decide)).trans m2 (by rintro x rfl;decide);obtain ⟨g,cap,e7,_,_⟩:=hown1.form (by omega);clear hcl m1 m2 hown hown1 hg1 hat1 h c4;subst e7;go_wp2;go_end0;exact ⟨rfl,_,key,mm⟩
end
structure CW where
 text:ByteArray
 line:Nat
 style:List UInt8
 bad:Bool
 known:List ByteArray
 nv:Nat
 vals:List Value
 used:List ByteArray
 inner:List ByteArray
def Sty (lab:Lab) (w:World) (v:Value) (l:List UInt8):Prop :=
 ∃ (a:Option Addr) (c:Nat),v=.slice a l.length c∧l.length≤c∧c≤maxLen∧(l ≠ []→∃ ad:Addr,a=some ad∧lab ad.block=0∧∀ i x,l[i]?=some x→w.cell? (ad.add i)=some (.int .u8 (x.toNat:Int)))
def CW.cells (W:CW) (sv kn va us inn:Value):Array Value:=#[.string W.text,i64 W.line,sv,.bool W.bad,kn,va,us,inn]
structure WAtX (lab:Lab) (w:World) (b:Nat) (W:CW) (sv kn va us inn:Value):Prop where
 cl:Cl 40 lab w b (W.cells sv kn va us inn) 53
 sty:Sty lab w sv W.style
 kn:Rw 0 41 lab w 9 1 kn W.known.length (W.known.map Value.string)
 va:Rw 0 42 lab w 26 7 va W.nv W.vals
 us:Rw 0 43 lab w 9 1 us W.used.length (W.used.map Value.string)
 inn:Rw 0 44 lab w 9 1 inn W.inner.length (W.inner.map Value.string)
def WAt (lab:Lab) (w:World) (b:Nat) (W:CW):Prop:=∃ sv kn va us inn,WAtX lab w b W sv kn va us inn
section
variable {lab lab1:Lab} {w w1:World} {b:Nat} {W:CW} {sv kn va us inn v:Value} {l:List UInt8} {M:Nat→Prop}
theorem Sty.mv (h:Sty lab w v l) (m:Mv M w lab w1 lab1) (h0:¬ M 0):Sty lab1 w1 v l:=by
 obtain ⟨a,c,h1,h2,h3,h4⟩:=h;refine ⟨a,c,h1,h2,h3,fun hl=>?_⟩;obtain ⟨ad,rfl,h5,h6⟩:=h4 hl;have hadd:∀ i,(ad.add i).block=ad.block:=fun i=>by unfold Addr.add;split <;> rfl
 obtain ⟨x,r,rfl⟩:∃ x r,l=x :: r:=by cases l with | nil=>exact absurd rfl hl | cons x r=>exact ⟨x,r,rfl⟩
 have hlt:ad.block < w.heap.size:=by
  have:=World.block_lt_of_cell? w _ (h6 0 x rfl);rw [hadd] at this;exact this
 have hb:=m.block ad.block hlt (by rw [h5];exact h0);refine ⟨ad,rfl,(m.lab ad.block hlt (by rw [h5];exact h0)).trans h5,fun i y hy=>?_⟩;rw [← h6 i y hy];unfold World.cell?;rw [hadd,hb]
theorem WAtX.mv (h:WAtX lab w b W sv kn va us inn) (m:Mv M w lab w1 lab1) (hM:∀ x,x=0 ∨ (40≤x∧x≤44)→¬ M x):WAtX lab1 w1 b W sv kn va us inn :=
 ⟨h.cl.mv m (hM _ (by omega)),h.sty.mv m (hM _ (by omega)),h.kn.mv m (hM _ (by omega)),h.va.mv m (hM _ (by omega)),h.us.mv m (hM _ (by omega)),h.inn.mv m (hM _ (by omega))⟩
theorem WAt.mv (h:WAt lab w b W) (m:Mv M w lab w1 lab1) (hM:∀ x,x=0 ∨ (40≤x∧x≤44)→¬ M x):WAt lab1 w1 b W:=by
 obtain ⟨sv,kn,va,us,inn,h⟩:=h;exact ⟨sv,kn,va,us,inn,h.mv m hM⟩
theorem WAtX.set {W':CW} {sv':Value} (h:WAtX lab w b W sv kn va us inn) (i:Nat) (u:Value) (hc:(W.cells sv kn va us inn).setIfInBounds i u=W'.cells sv' kn va us inn) (hs:Sty lab w sv' W'.style)
  (h1:W'.known=W.known) (h2:W'.nv=W.nv) (h3:W'.vals=W.vals) (h4:W'.used=W.used) (h5:W'.inner=W.inner):WAtX lab (w.setCell ⟨b,i,none⟩ u) b W' sv' kn va us inn:=by
 have m:Mv (·=40) w lab (w.setCell ⟨b,i,none⟩ u) lab:=Mv.setCell _ _ _ _ h.cl.2;have hcl:=h.cl.set i u;rw [hc] at hcl;exact ⟨hcl,hs.mv m (by decide),by rw [h1];exact h.kn.mv m (by decide),by rw [h2,h3];exact h.va.mv m (by decide),by rw [h4];exact h.us.mv m (by decide),by rw [h5];exact h.inn.mv m (by decide)⟩
def CW.pick (W:CW) (n:Nat):Nat × CW:=match W.style with
 | []=>(0,W)
 | c :: r=>(c.toNat % n,{ W with style:=r })
theorem add_add (a:Addr) (i:Nat):(a.add 1).add i=a.add (i + 1):=by
 unfold Addr.add;by_cases h:i=0
 ·subst h;rfl
 ·simp [h];omega
set_option maxRecDepth 100000 in
theorem pick_c (h:WAt lab w b W) (n:Nat) (hn:0 < n) (hn2:n≤1000):Calls Tryz.prog 27 #[.pointer (some ⟨b,0,none⟩),i64 n] w fun e w'=>e=.returned (i64 (W.pick n).1)∧WAt lab w' b (W.pick n).2∧Mv (·=40) w lab w' lab:=by
 obtain ⟨sv,kn,va,us,inn,h⟩:=h;have c2:w.cell? ⟨b,2,none⟩=some sv:=h.cl.cell 2;have f2:=h.cl.free 2;obtain ⟨a,c,rfl,hlc,hcm,hx⟩:=h.sty;unfold maxLen at hcm
 cases hs:W.style with
 | nil =>
  have hp:W.pick n=(0,W):=by unfold CW.pick;rw [hs]
  rw [hs] at c2;rw [hp];have HH:=Lib.hid h;clear h hx;go_enter Tryz.func27,Tryz.ntmps27;go_wp2;go_ret;exact ⟨rfl,⟨_,_,_,_,_,HH.out⟩,Mv.refl _ _ _⟩
 | cons x r =>
  obtain ⟨m,hm,hmn⟩:∃ m:Nat,x.toNat % n=m∧m < n:=⟨_,rfl,Nat.mod_lt _ hn⟩;have hp:W.pick n=(m,{ W with style:=r }):=by unfold CW.pick;rw [hs];simp only [hm]
  rw [hp];obtain ⟨ad,rfl,h0,hcell⟩:=hx (by rw [hs];exact fun e=>by cases e);have q:=hcell 0 x (by rw [hs];rfl);rw [show ad.add 0=ad from rfl] at q;rw [hs,List.length_cons] at c2 hlc;have ht:Int.tmod (x.toNat:Int) (n:Int)=(m:Int):=by rw [← hm];rfl
  have hx255:=x.toNat_lt;have hsty:Sty lab w (.slice (some (ad.add 1)) r.length (c - 1)) r:=by
   refine ⟨_,_,rfl,by omega,by unfold maxLen;omega,fun _=>⟨_,rfl,?_,fun i y hy=>?_⟩⟩
   ·rw [← h0];unfold Addr.add;rfl
   ·rw [add_add];exact hcell (i + 1) y (by rw [hs];exact hy)
  have hset:∀ v,Sty lab w v r→WAtX lab (w.setCell ⟨b,2,none⟩ v) b { W with style:=r } v kn va us inn:=fun v hv=>h.set (W':={ W with style:=r }) (sv':=v) 2 v rfl hv rfl rfl rfl rfl rfl
  have hmv:∀ v,Mv (·=40) w lab (w.setCell ⟨b,2,none⟩ v) lab:=fun v=>Mv.setCell _ _ _ _ h.cl.2
  have HS:=Lib.hid hset;have HT:=Lib.hid hsty;have HL:=Lib.hid hmv;clear hset h hcell hx hsty hmv hm h0 hp hs;by_cases hc1:c=1
  ·subst hc1;have hr:r=[]:=List.eq_nil_of_length_eq_zero (by omega);subst hr;go_enter Tryz.func27,Tryz.ntmps27;go_wp2;go_ret;exact ⟨rfl,⟨_,_,_,_,_,HS.out _ ⟨_,0,rfl,Nat.le_refl _,Nat.zero_le _,fun e=>absurd rfl e⟩⟩,HL.out _⟩
  ·go_enter Tryz.func27,Tryz.ntmps27;go_wp2;go_ret;exact ⟨rfl,⟨_,_,_,_,_,HS.out _ HT.out⟩,HL.out _⟩
def CW.put (W:CW) (s:ByteArray):CW:={ W with text:=W.text ++ s,line:=W.line + nlc s s.size,bad:=W.bad || decide (20000 < (W.text ++ s).size) }
set_option maxRecDepth 100000 in
set_option maxHeartbeats 2000000 in
theorem put_c (h:WAt lab w b W) (s:ByteArray) (hs:s.size≤1000000) (ht:W.text.size≤1000000000) (hl:W.line≤1000000000):Calls Tryz.prog 28 #[.pointer (some ⟨b,0,none⟩),.string s] w fun e w'=>e=.returned (.tuple #[])∧WAt lab w' b (W.put s)∧Mv (·=40) w lab w' lab:=by
 obtain ⟨sv,kn,va,us,inn,h⟩:=h;have HH:=Lib.hid h;clear h;go_enter Tryz.func28,Tryz.ntmps28;go_wp2_with fail;go_loopw [4] (fun i wr=>∃ k:Nat,k≤s.size∧i=.int .i64 k∧WAtX lab wr b { W with line:=W.line + nlc s k } sv kn va us inn∧Mv (·=40) w lab wr lab) (fun i _=>s.size - (RowKit.intOf i).toNat)
 case atStart=>exact ⟨0,Nat.zero_le _,rfl,by have:=HH.out;simpa [nlc] using this,Mv.refl _ _ _⟩
 case round =>
  obtain ⟨k,hk,rfl,hw,m⟩:=hrel;have c0:wr.cell? ⟨b,0,none⟩=some (.string W.text):=hw.cl.cell 0;have c1:wr.cell? ⟨b,1,none⟩=some (i64 ((W.line + nlc s k:Nat):Int)):=hw.cl.cell 1;have c3:wr.cell? ⟨b,3,none⟩=some (.bool W.bad):=hw.cl.cell 3;have f0:=hw.cl.free 0;have f1:=hw.cl.free 1;have f3:=hw.cl.free 3;have hn:=nlc_le s k;have hl40:=hw.cl.2;by_cases hlt:k < s.size
  ·have h1:(k:Int) < (s.size:Int):=by omega
   have hsucc:=nlc_succ s k hlt;by_cases hc:byteAt s k=10
   ·have hb:(((s[k]'hlt).toNat:Int) == 10)=true:=by rw [byteAt_get,hc];rfl
    rw [if_pos hc] at hsucc;have hset:=hw.set (W':={ W with line:=W.line + nlc s (k + 1) }) (sv':=sv) 1 (i64 (((W.line + nlc s k:Nat):Int) + 1)) (by rw [hsucc];rfl) hw.sty rfl rfl rfl rfl rfl;have m2:=m.trans (Mv.setCell wr lab ⟨b,1,none⟩ (i64 (((W.line + nlc s k:Nat):Int) + 1)) (show (fun x=>x=40) (lab b) from hl40)) (fun _ h=>h);have hx:(((W.line + nlc s k:Nat):Int) + 1)≤9223372036854775807:=by omega
    have hx0:(0:Int)≤((W.line + nlc s k:Nat):Int):=Int.natCast_nonneg _;have HS:=Lib.hid hset;have HM:=Lib.hid m2;clear hset m2 hw m hsucc hc;obtain ⟨z,hz⟩:∃ z:Int,z=((W.line + nlc s k:Nat):Int):=⟨_,rfl⟩;rw [← hz] at c1 hx hx0;have HZ:=Lib.hid hz;clear hz;go_wp2;go_roundw
    case rel=>exact ⟨k + 1,by omega,by go_num,by rw [HZ.out];exact HS.out,by rw [HZ.out];exact HM.out⟩
    case measure=>simp [RowKit.intOf];omega
   ·have hb:(((s[k]'hlt).toNat:Int) == 10)=false:=by rw [byteAt_get];exact bqf (by omega)
    rw [if_neg hc] at hsucc;have hsucc:nlc s (k + 1)=nlc s k:=hsucc;rw [← hsucc] at hw;have HS:=Lib.hid hw;have HM:=Lib.hid m;clear hw m hsucc hc;go_wp2;go_roundw
    case rel=>exact ⟨k + 1,by omega,by go_num,HS.out,HM.out⟩
    case measure=>simp [RowKit.intOf];omega
  ·have hke:k=s.size:=by omega
   subst hke;have hsz:¬ 9223372036854775807 < W.text.size + s.size:=by omega
   have hset:=hw.set (W':={ W with text:=W.text ++ s,line:=W.line + nlc s s.size }) (sv':=sv) 0 (.string (W.text ++ s)) rfl hw.sty rfl rfl rfl rfl rfl;have m2:=m.trans (Mv.setCell wr lab ⟨b,0,none⟩ (.string (W.text ++ s)) (show (fun x=>x=40) (lab b) from hl40)) (fun _ h=>h);have hset2:=hset.set (W':=W.put s) (sv':=sv) 3 (.bool (W.bad || decide (20000 < (W.text ++ s).size))) rfl hset.sty rfl rfl rfl rfl rfl;have m3:=m2.trans (Mv.setCell _ lab ⟨b,3,none⟩ (.bool (W.bad || decide (20000 < (W.text ++ s).size))) (show (fun x=>x=40) (lab b) from hl40)) (fun _ h=>h);have HS:=Lib.hid hset2;have HM:=Lib.hid m3;clear hset m2 hw m c1 f1 hset2 m3
   cases hbad:W.bad with
   | true =>
    rw [hbad] at c3 HS HM;go_wp2;go_end0;exact ⟨rfl,⟨_,_,_,_,_,HS.out⟩,HM.out⟩
   | false =>
    rw [hbad] at c3 HS HM;have hsz2:(W.text ++ s).size=W.text.size + s.size:=bsa;by_cases hbig:20000 < W.text.size + s.size
    ·have hd:decide (20000 < (W.text ++ s).size)=true:=decide_eq_true (by omega);rw [hd] at HS HM;have e1:decide ((20000:Int) < ((W.text.size:Int) + (s.size:Int)))=true:=decide_eq_true (by omega);clear hsz2 hd;go_wp2;go_end0;exact ⟨rfl,⟨_,_,_,_,_,HS.out⟩,HM.out⟩
    ·have hd:decide (20000 < (W.text ++ s).size)=false:=decide_eq_false (by omega);rw [hd] at HS HM;have e1:decide ((20000:Int) < ((W.text.size:Int) + (s.size:Int)))=false:=decide_eq_false (by omega);clear hsz2 hd;go_wp2;go_end0;exact ⟨rfl,⟨_,_,_,_,_,HS.out⟩,HM.out⟩
end
def Plain (s nn:ByteArray):Prop:=∀ i,i < s.size→32≤byteAt s i∧byteAt s i≤126∧∀ j,j < nn.size→byteAt s i ≠ byteAt nn j
theorem drewN_add (w:World) (n m:Nat):(w.drewN n).drewN m=w.drewN (n + m):=by simp [World.drewN,Nat.add_assoc]
section
variable {lab:Lab} {w:World}
set_option maxRecDepth 100000 in
set_option maxHeartbeats 4000000 in
theorem confPlain_c (s nn:ByteArray) (hs:s.size≤1000000) (hn:nn.size≤1000):Calls Tryz.prog 38 #[.string s,.string nn] w fun e w'=>(∃ ok:Bool,e=.returned (.bool ok)∧(ok=true→Plain s nn))∧∃ n,w'=w.drewN n:=by
 go_enter Tryz.func38,Tryz.ntmps38;go_wp2_with fail;go_loopw [5] (fun i wr=>∃ k:Nat,k≤s.size∧i=.int .i64 k∧(∃ n,wr=w.drewN n)∧∀ i,i < k→32≤byteAt s i∧byteAt s i≤126∧∀ j,j < nn.size→byteAt s i ≠ byteAt nn j) (fun i _=>s.size - (RowKit.intOf i).toNat)
 case atStart=>exact ⟨0,Nat.zero_le _,rfl,⟨0,rfl⟩,fun j hj=>absurd hj (Nat.not_lt_zero j)⟩
 case round =>
  obtain ⟨k,hk,rfl,hw,hall⟩:=hrel;have HA:=Lib.hid hall;have HW:=Lib.hid hw;clear hall hw;by_cases hlt:k < s.size
  ·have h1:(k:Int) < (s.size:Int):=by omega
   obtain ⟨b,hbb⟩:∃ b,b=s[k]'hlt:=⟨_,rfl⟩;have hb1:(s[k]'hlt)=b:=hbb.symm;have HB:Hid (byteAt s k=b.toNat):=Lib.hid (by rw [← byteAt_get s k hlt,hb1]);clear hbb;by_cases h32:b.toNat < 32
   ·have e1:decide ((b.toNat:Int) < 32)=true:=decide_eq_true (by omega);go_wp2;go_ret;exact ⟨⟨false,rfl,fun h=>by cases h⟩,HW.out⟩
   by_cases h126:126 < b.toNat
   ·have e1:decide ((b.toNat:Int) < 32)=false:=decide_eq_false (by omega);have e2:decide ((126:Int) < (b.toNat:Int))=true:=decide_eq_true (by omega);go_wp2;go_ret;exact ⟨⟨false,rfl,fun h=>by cases h⟩,HW.out⟩
   have e1:decide ((b.toNat:Int) < 32)=false:=decide_eq_false (by omega);have e2:decide ((126:Int) < (b.toNat:Int))=false:=decide_eq_false (by omega);go_wp2_with fail;go_loopw [6] (fun i wr=>∃ m:Nat,m≤nn.size∧i=.int .i64 m∧(∃ n,wr=w.drewN n)∧∀ j,j < m→b.toNat ≠ byteAt nn j) (fun i _=>nn.size - (RowKit.intOf i).toNat)
   case atStart=>exact ⟨0,Nat.zero_le _,rfl,HW.out,fun j hj=>absurd hj (Nat.not_lt_zero j)⟩
   case round =>
    obtain ⟨m,hm,rfl,hw,hall⟩:=hrel;have HM:=Lib.hid hall;have HW:=Lib.hid hw;clear hall hw;by_cases hmt:m < nn.size
    ·have h2:(m:Int) < (nn.size:Int):=by omega
     obtain ⟨c,hcc⟩:∃ c,c=nn[m]'hmt:=⟨_,rfl⟩;have hc1:(nn[m]'hmt)=c:=hcc.symm;have HC:Hid (byteAt nn m=c.toNat):=Lib.hid (by rw [← byteAt_get nn m hmt,hc1]);clear hcc;go_wp2_with fail;go_quiet (fail);by_cases heq:b.toNat=c.toNat
     ·have e3:((b.toNat:Int) == (c.toNat:Int))=true:=beq_iff_eq.2 (by omega);clear heq;go_wp2;go_ret;obtain ⟨n0,rfl⟩:=HW.out;exact ⟨⟨false,rfl,fun h=>by cases h⟩,n0 + nq,drewN_add _ _ _⟩
     ·have e3:((b.toNat:Int) == (c.toNat:Int))=false:=bqf (by omega);have hnx:∀ j,j < m + 1→b.toNat ≠ byteAt nn j:=fun j hj=>by
       rcases Nat.lt_or_eq_of_le (Nat.le_of_lt_succ hj) with h | h
       ·exact HM.out j h
       ·rw [h,HC.out];exact heq
      have HX:=Lib.hid hnx;have hw2:∃ n,wr.drewN nq=w.drewN n:=by
       obtain ⟨n0,rfl⟩:=HW.out;exact ⟨n0 + nq,drewN_add _ _ _⟩
      have HY:=Lib.hid hw2;clear heq hnx hw2;go_wp2;go_roundw
      case rel=>exact ⟨m + 1,by omega,by go_num,HY.out,HX.out⟩
      case measure=>simp [RowKit.intOf];omega
    ·have hme:m=nn.size:=by omega
     subst hme;have hnx:∀ i,i < k + 1→32≤byteAt s i∧byteAt s i≤126∧∀ j,j < nn.size→byteAt s i ≠ byteAt nn j:=fun i hi=>by
      rcases Nat.lt_or_eq_of_le (Nat.le_of_lt_succ hi) with h | h
      ·exact HA.out i h
      ·rw [h,HB.out];exact ⟨by omega,by omega,HM.out⟩
     have HX:=Lib.hid hnx;clear hnx;go_wp2;go_roundw
     case rel=>exact ⟨k + 1,by omega,by go_num,HW.out,HX.out⟩
     case measure=>simp [RowKit.intOf];omega
  ·have hke:k=s.size:=by omega
   subst hke;go_wp2;go_ret;exact ⟨⟨true,rfl,fun _=>HA.out⟩,HW.out⟩
structure Blk (s:ByteArray):Prop where
 size:2≤s.size
 first:byteAt s 0=10
 last:byteAt s (s.size - 1)=10
 mid:∀ i,1≤i→i < s.size→¬ (byteAt s (i - 1)=10∧byteAt s i=41)∧(byteAt s i=10 ∨ (32≤byteAt s i∧byteAt s i≤126))
set_option maxRecDepth 100000 in
set_option maxHeartbeats 4000000 in
theorem confBlock_c (s:ByteArray) (hs:s.size≤1000000):Calls Tryz.prog 52 #[.string s] w fun e w'=>(∃ ok:Bool,e=.returned (.bool ok)∧(ok=true→Blk s))∧w'=w:=by
 by_cases h2:s.size < 2
 ·have e1:decide ((s.size:Int) < 2)=true:=decide_eq_true (by omega);go_enter Tryz.func52,Tryz.ntmps52;go_wp2;go_ret;exact ⟨⟨false,rfl,fun h=>by cases h⟩,rfl⟩
 have e1:decide ((s.size:Int) < 2)=false:=decide_eq_false (by omega);have hp0:0 < s.size:=by omega
 obtain ⟨b0,hb0⟩:∃ b,(s[0]'hp0)=b:=⟨_,rfl⟩;have HB0:Hid (byteAt s 0=b0.toNat):=Lib.hid (by rw [← byteAt_get s 0 hp0,hb0]);by_cases h0:b0.toNat ≠ 10
 ·have e2:((b0.toNat:Int) == 10)=false:=bqf (by omega);go_enter Tryz.func52,Tryz.ntmps52;go_wp2;go_ret;exact ⟨⟨false,rfl,fun h=>by cases h⟩,rfl⟩
 have e2:((b0.toNat:Int) == 10)=true:=beq_iff_eq.2 (by omega);have hpl:s.size - 1 < s.size:=by omega
 obtain ⟨bl,hbl⟩:∃ b,(s[s.size - 1]'hpl)=b:=⟨_,rfl⟩;have HBL:Hid (byteAt s (s.size - 1)=bl.toNat):=Lib.hid (by rw [← byteAt_get s _ hpl,hbl]);by_cases hl:bl.toNat ≠ 10
 ·have e3:((bl.toNat:Int) == 10)=false:=bqf (by omega);go_enter Tryz.func52,Tryz.ntmps52;go_wp2;go_ret;exact ⟨⟨false,rfl,fun h=>by cases h⟩,rfl⟩
 have e3:((bl.toNat:Int) == 10)=true:=beq_iff_eq.2 (by omega);go_enter Tryz.func52,Tryz.ntmps52;go_wp2_with fail;go_loopw [3] (fun i wr=>∃ k:Nat,1≤k∧k≤s.size∧i=.int .i64 k∧wr=w∧∀ i,1≤i→i < k→¬ (byteAt s (i - 1)=10∧byteAt s i=41)∧(byteAt s i=10 ∨ (32≤byteAt s i∧byteAt s i≤126))) (fun i _=>s.size - (RowKit.intOf i).toNat)
 case atStart=>exact ⟨1,Nat.le_refl _,by omega,rfl,rfl,fun i h1 h2=>absurd h1 (by omega)⟩
 case round =>
  obtain ⟨k,hk1,hk,rfl,hwr,hall⟩:=hrel;have hwr':=hwr.symm;clear hwr;subst hwr';have HA:=Lib.hid hall;clear hall;by_cases hlt:k < s.size
  ·have h1:(k:Int) < (s.size:Int):=by omega
   have hkm:k - 1 < s.size:=by omega
   obtain ⟨p,hp⟩:∃ b,(s[k - 1]'hkm)=b:=⟨_,rfl⟩;obtain ⟨c,hc⟩:∃ b,(s[k]'hlt)=b:=⟨_,rfl⟩;have HP:Hid (byteAt s (k - 1)=p.toNat):=Lib.hid (by rw [← byteAt_get s _ hkm,hp]);have HC:Hid (byteAt s k=c.toNat):=Lib.hid (by rw [← byteAt_get s k hlt,hc]);have step:(¬ (p.toNat=10∧c.toNat=41)∧(c.toNat=10 ∨ (32≤c.toNat∧c.toNat≤126)))→∀ i,1≤i→i < k + 1→¬ (byteAt s (i - 1)=10∧byteAt s i=41)∧(byteAt s i=10 ∨ (32≤byteAt s i∧byteAt s i≤126)):=fun hx i hi1 hi=>by
    rcases Nat.lt_or_eq_of_le (Nat.le_of_lt_succ hi) with h | h
    ·exact HA.out i hi1 h
    ·rw [h,HP.out,HC.out];exact hx
   have HS:=Lib.hid step;clear step;have HKP:=Lib.hid (aI hk1 hk);by_cases hp10:p.toNat=10
   ·have e4:((p.toNat:Int) == 10)=true:=beq_iff_eq.2 (by omega);by_cases hc0:c.toNat=41
    ·have e_41:((c.toNat:Int) == 41)=true:=beq_iff_eq.2 (by omega);clear hp10 hc0;go_wp2;go_ret;exact ⟨⟨false,rfl,fun h=>by cases h⟩,rfl⟩
    by_cases hc1:c.toNat=10
    ·have e_41:((c.toNat:Int) == 41)=false:=bqf (by omega);have e_10:((c.toNat:Int) == 10)=true:=beq_iff_eq.2 (by omega);have n_10:((c.toNat:Int) != 10)=false:=by rw [bne,e_10];rfl
     have HX:=Lib.hid (HS.out (by omega));clear hp10 hc0 hc1;go_wp2;go_roundw
     case rel=>exact ⟨k + 1,by omega,by omega,by go_num,trivial,HX.out⟩
     case measure=>simp [RowKit.intOf];omega
    by_cases hc2:c.toNat < 32
    ·have e_41:((c.toNat:Int) == 41)=false:=bqf (by omega);have e_10:((c.toNat:Int) == 10)=false:=bqf (by omega);have n_10:((c.toNat:Int) != 10)=true:=by rw [bne,e_10];rfl
     have l_32:decide ((c.toNat:Int) < 32)=true:=decide_eq_true (by omega);clear hp10 hc0 hc1 hc2;go_wp2;go_ret;exact ⟨⟨false,rfl,fun h=>by cases h⟩,rfl⟩
    by_cases hc3:126 < c.toNat
    ·have e_41:((c.toNat:Int) == 41)=false:=bqf (by omega);have e_10:((c.toNat:Int) == 10)=false:=bqf (by omega);have n_10:((c.toNat:Int) != 10)=true:=by rw [bne,e_10];rfl
     have l_32:decide ((c.toNat:Int) < 32)=false:=decide_eq_false (by omega);have g_126:decide ((126:Int) < (c.toNat:Int))=true:=decide_eq_true (by omega);clear hp10 hc0 hc1 hc2 hc3;go_wp2;go_ret;exact ⟨⟨false,rfl,fun h=>by cases h⟩,rfl⟩
    have e_41:((c.toNat:Int) == 41)=false:=bqf (by omega);have e_10:((c.toNat:Int) == 10)=false:=bqf (by omega);have n_10:((c.toNat:Int) != 10)=true:=by rw [bne,e_10];rfl
    have l_32:decide ((c.toNat:Int) < 32)=false:=decide_eq_false (by omega);have g_126:decide ((126:Int) < (c.toNat:Int))=false:=decide_eq_false (by omega);have HX:=Lib.hid (HS.out (by omega));clear hp10 hc0 hc1 hc2 hc3;go_wp2;go_roundw
    case rel=>exact ⟨k + 1,by omega,by omega,by go_num,trivial,HX.out⟩
    case measure=>simp [RowKit.intOf];omega
   ·have e4:((p.toNat:Int) == 10)=false:=bqf (by omega);by_cases hc0:c.toNat=10
    ·have e_10:((c.toNat:Int) == 10)=true:=beq_iff_eq.2 (by omega);have n_10:((c.toNat:Int) != 10)=false:=by rw [bne,e_10];rfl
     have HX:=Lib.hid (HS.out (by omega));clear hp10 hc0;go_wp2;go_roundw
     case rel=>exact ⟨k + 1,by omega,by omega,by go_num,trivial,HX.out⟩
     case measure=>simp [RowKit.intOf];omega
    by_cases hc1:c.toNat < 32
    ·have e_10:((c.toNat:Int) == 10)=false:=bqf (by omega);have n_10:((c.toNat:Int) != 10)=true:=by rw [bne,e_10];rfl
     have l_32:decide ((c.toNat:Int) < 32)=true:=decide_eq_true (by omega);clear hp10 hc0 hc1;go_wp2;go_ret;exact ⟨⟨false,rfl,fun h=>by cases h⟩,rfl⟩
    by_cases hc2:126 < c.toNat
    ·have e_10:((c.toNat:Int) == 10)=false:=bqf (by omega);have n_10:((c.toNat:Int) != 10)=true:=by rw [bne,e_10];rfl
     have l_32:decide ((c.toNat:Int) < 32)=false:=decide_eq_false (by omega);have g_126:decide ((126:Int) < (c.toNat:Int))=true:=decide_eq_true (by omega);clear hp10 hc0 hc1 hc2;go_wp2;go_ret;exact ⟨⟨false,rfl,fun h=>by cases h⟩,rfl⟩
    have e_10:((c.toNat:Int) == 10)=false:=bqf (by omega);have n_10:((c.toNat:Int) != 10)=true:=by rw [bne,e_10];rfl
    have l_32:decide ((c.toNat:Int) < 32)=false:=decide_eq_false (by omega);have g_126:decide ((126:Int) < (c.toNat:Int))=false:=decide_eq_false (by omega);have HX:=Lib.hid (HS.out (by omega));clear hp10 hc0 hc1 hc2;go_wp2;go_roundw
    case rel=>exact ⟨k + 1,by omega,by omega,by go_num,trivial,HX.out⟩
    case measure=>simp [RowKit.intOf];omega
  ·have hke:k=s.size:=by omega
   subst hke;have hblk:Blk s:=⟨by omega,by rw [HB0.out];omega,by rw [HBL.out];omega,HA.out⟩;have HK:=Lib.hid hblk;clear hblk;go_wp2;go_ret;exact ⟨⟨true,rfl,fun _=>HK.out⟩,rfl⟩
end
def numOf (l:List UInt8):Nat:=l.foldl (fun n c=>n * 10 + (c.toNat - 48)) 0
def isDigits (s:ByteArray):Prop:=∀ i,i < s.size→48≤byteAt s i∧byteAt s i≤57
theorem numOf_snoc (l:List UInt8) (c:UInt8):numOf (l ++ [c])=numOf l * 10 + (c.toNat - 48):=by simp [numOf]
theorem numOf_take (s:ByteArray) (i:Nat) (h:i < s.size):numOf (s.data.toList.take (i + 1))=numOf (s.data.toList.take i) * 10 + (byteAt s i - 48):=by
 have h':i < s.data.toList.length:=by rw [data_length];exact h
 rw [List.take_succ_eq_append_getElem h',numOf_snoc];have e:byteAt s i=(s.data.toList[i]).toNat:=by unfold byteAt;rw [List.getD_eq_getElem?_getD,List.getElem?_eq_getElem h'];rfl
 rw [e]
theorem numOf_mono_app (l:List UInt8):∀ r:List UInt8,numOf l≤numOf (l ++ r):=by
 intro r
 induction r generalizing l with
 | nil=>simp
 | cons c r ih =>
  have h1:=ih (l ++ [c]);rw [numOf_snoc,List.append_assoc] at h1;simp only [List.cons_append,List.nil_append] at h1;omega
theorem numOf_take_le (s:ByteArray) (i:Nat):numOf (s.data.toList.take i)≤numOf s.data.toList:=by
 have:=numOf_mono_app (s.data.toList.take i) (s.data.toList.drop i);rwa [List.take_append_drop] at this
set_option maxRecDepth 100000 in
set_option maxHeartbeats 4000000 in
theorem parseUint_c (s:ByteArray) (hs:0 < s.size) (hd:isDigits s) (hn:numOf s.data.toList < 18446744073709551616) (hsm:s.size≤1000000) (w:World) :
  Calls Tryz.prog 142 #[.string s,i64 10,i64 64] w fun e w'=>e=.returned (.tuple #[.int .u64 (numOf s.data.toList:Nat),.nilIface])∧Below w.heap.size w w':=by
 have hne:(s.toList == [])=false:=by rw [Lib.toList_data];cases h:s.data.toList with
  | nil =>
      have:s.data.size=0:=by rw [← Array.length_toList,h];rfl
      have:s.size=s.data.size:=rfl;omega
  | cons=>rfl
 have hcv:=Go.Lib.run_convert_string_bytes w 9 27 5 s Tryz.underlying9 Tryz.underlying27 Tryz.underlying5;have hcell:=fun j hj=>Go.Lib.bytesWorld_cell w 5 s j hj
 have hbel:Below w.heap.size w (Go.Lib.bytesWorld w 5 s):=⟨rfl,rfl,rfl,by rw [Go.Lib.bytesWorld_size];omega,fun k hk=>Go.Lib.bytesWorld_at_old w 5 s k hk⟩;obtain ⟨W,hW⟩:∃ W,W=Go.Lib.bytesWorld w 5 s:=⟨_,rfl⟩;obtain ⟨cap,hcap⟩:∃ cap,cap=grownCap w s.size 0 5:=⟨_,rfl⟩;rw [← hW] at hcell hbel;rw [← hW,← hcap] at hcv;have hcap2:s.size≤cap:=by rw [hcap];exact grownCap_ge _ _ _ _
 have hw64:IntKind.u64.wrap (IntKind.u64.wrap 18446744073709551616 - 1)=18446744073709551615:=rfl;clear hW hcap;go_enter Tryz.func142,Tryz.ntmps142;go_wp2_with fail;have HD:=Lib.hid hd;have HN:=Lib.hid hn;have HC:=Lib.hid hcell;have HB:=Lib.hid hbel;clear hd hn hcell hbel hcv hw64 hne;go_loop [11,12,88] (fun acc ub i=>∃ k:Nat,k≤s.size∧i=.int .i64 k∧ub=.bool false∧acc=.int .u64 (numOf (s.data.toList.take k):Nat)) (fun _ _ i=>s.size - (RowKit.intOf i).toNat)
 case atStart=>exact ⟨0,Nat.zero_le _,rfl,rfl,rfl⟩
 case round =>
  obtain ⟨k,hk,rfl,rfl,rfl⟩:=hrel;by_cases hlt:k < s.size
  ·have hc:=HC.out k hlt;change W.cell? _=some (.int .u8 (byteAt s k:Nat)) at hc;have h1:=(HD.out k hlt).1;have h2:=(HD.out k hlt).2;have e1:((byteAt s k:Int) == 95)=false:=bqf (by omega);have hnt:=numOf_take s k hlt;have hle:=numOf_take_le s (k + 1);have hn:=HN.out;obtain ⟨c,hcc⟩:∃ c,c=byteAt s k:=⟨_,rfl⟩;obtain ⟨n,hnn⟩:∃ n,n=numOf (s.data.toList.take k):=⟨_,rfl⟩;rw [← hcc] at hc h1 h2 e1 hnt;rw [← hnn] at hnt ⊢;rw [hnt] at hle;have b1:(n:Int) * 10 + ((c:Int) - 48) < 18446744073709551616:=by omega
   have HT:=Lib.hid hnt;clear hnt hle hn hcc hnn;go_wp2;go_round
   case rel=>exact ⟨k + 1,by omega,by go_num,rfl,by rw [HT.out];congr 1;omega⟩
   case measure=>simp [RowKit.intOf];omega
  ·have hks:k=s.size:=by omega
   subst hks;have hall:s.data.toList.take s.size=s.data.toList:=List.take_of_length_le (by rw [data_length];omega);rw [hall];go_wp2;go_ret2;exact ⟨rfl,HB.out⟩
theorem nonempty_list (s:ByteArray) (hs:0 < s.size):(s.toList == [])=false:=by
 rw [Lib.toList_data]
 cases h:s.data.toList with
 | nil =>
     have:s.data.size=0:=by rw [← Array.length_toList,h];rfl
     have:s.size=s.data.size:=rfl;omega
 | cons=>rfl
set_option maxRecDepth 100000 in
set_option maxHeartbeats 4000000 in
theorem parseInt_pos (s:ByteArray) (hs:0 < s.size) (hd:isDigits s) (hn:numOf s.data.toList < 9223372036854775808) (hsm:s.size≤1000000) (w:World) :
  Calls Tryz.prog 99 #[.string s,i64 10,i64 64] w fun e w'=>e=.returned (.tuple #[.int .i64 (numOf s.data.toList:Nat),.nilIface])∧Below w.heap.size w w':=by
 have HU:=parseUint_c s hs hd (by omega) hsm w;have h0:=hd 0 hs;rw [← byteAt_get s 0 hs] at h0;have h1:=h0.1;have h2:=h0.2;have e1:(((s[0]'hs).toNat:Int) == 45)=false:=bqf (by omega);have e2:(((s[0]'hs).toNat:Int) == 43)=false:=bqf (by omega);have hne:=nonempty_list s hs;obtain ⟨n,hnn⟩:∃ n,n=numOf s.data.toList:=⟨_,rfl⟩;rw [← hnn] at hn HU ⊢;have HH:=Lib.hid hd;have b1:(n:Int) < 9223372036854775808:=by omega
 have HN:=Lib.hid hn;have d1:decide ((9223372036854775808:Int)≤(n:Int))=false:=decide_eq_false (by omega);have d2:¬ ((9223372036854775808:Int)≤(n:Int)):=by omega
 have hw:IntKind.i64.wrap (n:Int)=(n:Int):=by rw [IntKind.wrap_i64];omega
 have HB1:=Lib.hid b1;clear hd hnn h0 hn b1;go_enter Tryz.func99,Tryz.ntmps99;go_wp2_with fail;refine HU.mono ?_;rintro e w1 ⟨rfl,hb⟩;clear HU;go_wp2;go_ret2;exact ⟨rfl,hb⟩
set_option maxRecDepth 100000 in
theorem ParseInt_pos (s:ByteArray) (hs:0 < s.size) (hd:isDigits s) (hn:numOf s.data.toList < 9223372036854775808) (hsm:s.size≤1000000) (w:World) :
  Calls Tryz.prog 68 #[.string s,i64 10,i64 64] w fun e w'=>e=.returned (.tuple #[.int .i64 (numOf s.data.toList:Nat),.nilIface])∧Below w.heap.size w w':=by
 have HU:=parseInt_pos s hs hd hn hsm w;clear hn hd;go_enter Tryz.func68,Tryz.ntmps68;go_wp2_with fail;refine HU.mono ?_;rintro e w1 ⟨rfl,hb⟩;clear HU;go_wp2;go_ret2;exact ⟨rfl,hb⟩
end Go.Cf
