/-
  Texts joined: Nn Ni Nm Nl Y Any Bld Z AA.
-/
import Derived.Test.YtackodbeohaidaaGreatDoorZq02
import Derived.Test.YtackodbeohaidaaGreatDoorZq03
import Derived.Maps.RangeWalk
import Derived.Maps.Ext
import Derived.Sort.KeysCollected
import Derived.Sort.OwnSorted
import Derived.Deep.RegionLaw
import Derived.Orders
namespace Go.Cf
open Go.RowKit Go.Conc Go.Proofs Go.Maps Go.Sort
abbrev nilS:Value:=.slice none 0 0
abbrev ndC (k n:Int) (f:Nat) (b:Bool) (s:ByteArray) (kv lv:Value):Array Value:=#[.int .i64 k,.int .i64 n,.float .f64 f,.bool b,.string s,kv,lv]
abbrev flat (cs:List (Array Value)):List Value:=(cs.map Array.toList).flatten
mutual
def isN (B:Nat) (lab:Lab) (w:World):JV→Array Value→Prop
 | .int n,c=>c=ndC 1 n 0 false { data:=#[] } nilS nilS
 | .num f,c=>c=ndC 2 0 f false { data:=#[] } nilS nilS
 | .tr b,c=>c=ndC 3 0 0 b { data:=#[] } nilS nilS
 | .txt s,c=>c=ndC 4 0 0 false s nilS nilS
 | .arr l,c=>∃ lv cs,c=ndC 5 0 0 false { data:=#[] } nilS lv∧Rw B 9 lab w 26 7 lv l.length (flat cs)∧isNs B lab w l cs
 | .map ks l,c=>∃ kv lv cs,c=ndC 6 0 0 false { data:=#[] } kv lv∧Rw B 9 lab w 9 1 kv ks.length (ks.map .string)∧Rw B 9 lab w 26 7 lv l.length (flat cs)∧isNs B lab w l cs
def isNs (B:Nat) (lab:Lab) (w:World):List JV→List (Array Value)→Prop
 | [],[]=>True
 | j :: js,x :: xs=>isN B lab w j x∧isNs B lab w js xs
 | _,_=>False
end
section
variable {B:Nat} {M:Nat→Prop} {w w1:World} {lab lab1:Lab}
mutual
theorem isN.mv (m:Mv M w lab w1 lab1) (hM:¬ M 9):∀ (j:JV) (v:Array Value),isN B lab w j v→isN B lab1 w1 j v
 | .int n,v,h=>h
 | .num n,v,h=>h
 | .tr n,v,h=>h
 | .txt n,v,h=>h
 | .arr l,v,h=>by
  simp only [isN] at h ⊢;obtain ⟨s,xs,hv,hr,hj⟩:=h;exact ⟨s,xs,hv,hr.mv m hM,isNs.mv m hM l xs hj⟩
 | .map ks l,v,h=>by
  simp only [isN] at h ⊢;obtain ⟨s,lv,xs,hv,hk,hr,hj⟩:=h;exact ⟨s,lv,xs,hv,hk.mv m hM,hr.mv m hM,isNs.mv m hM l xs hj⟩
theorem isNs.mv (m:Mv M w lab w1 lab1) (hM:¬ M 9):∀ (l:List JV) (xs:List (Array Value)),isNs B lab w l xs→isNs B lab1 w1 l xs
 | [],[],h=>h
 | j :: js,x :: xs,h=>by
  simp only [isNs] at h ⊢;exact ⟨isN.mv m hM j x h.1,isNs.mv m hM js xs h.2⟩
 | [],_ :: _,h=>by simp [isNs] at h
 | _ :: _,[],h=>by simp [isNs] at h
end
theorem isNs_app:∀ {l:List JV} {xs:List (Array Value)} {j:JV} {v:Array Value},isNs B lab w l xs→isN B lab w j v→isNs B lab w (l ++ [j]) (xs ++ [v])
 | [],[],_,_,_,h=>by simpa [isNs] using h
 | _ :: _,_ :: _,_,_,h,h'=>by
  simp only [isNs,List.cons_append] at h ⊢;exact ⟨h.1,isNs_app h.2 h'⟩
 | [],_ :: _,_,_,h,_=>by simp [isNs] at h
 | _ :: _,[],_,_,h,_=>by simp [isNs] at h
theorem isJs.len:∀ {l:List JV} {xs:List Value},isJs B lab w l xs→xs.length=l.length
 | [],[],_=>rfl
 | _ :: _,_ :: _,h=>by
  simp only [isJs] at h;simp [h.2.len]
 | [],_ :: _,h=>by simp [isJs] at h
 | _ :: _,[],h=>by simp [isJs] at h
theorem isJs.get:∀ {l:List JV} {xs:List Value} (i:Nat) (j:JV) (v:Value),isJs B lab w l xs→l[i]?=some j→xs[i]?=some v→isJ B lab w j v
 | _ :: _,_ :: _,0,j,v,h,hj,hv=>by
  simp only [isJs] at h;simp only [List.getElem?_cons_zero,Option.some.injEq] at hj hv;subst hj;subst hv;exact h.1
 | _ :: _,_ :: _,i + 1,j,v,h,hj,hv=>by
  simp only [isJs] at h;exact isJs.get i j v h.2 (by simpa using hj) (by simpa using hv)
 | [],_,i,j,v,h,hj,hv=>by simp at hj
 | _ :: _,[],i,j,v,h,hj,hv=>by simp at hv
theorem Rw.low {B' ℓ e size n:Nat} {v:Value} {xs:List Value} (h:Rw B ℓ lab w e size v n xs) (hB:B'≤B):Rw B' ℓ lab w e size v n xs:=by
 obtain ⟨⟨hx,h0 | ⟨g,cap,cur,hv,hbg,hrest⟩⟩,hl⟩:=h
 ·exact ⟨⟨hx,.inl h0⟩,hl⟩
 ·exact ⟨⟨hx,.inr ⟨g,cap,cur,hv,by omega,hrest⟩⟩,hl⟩
theorem leB_of_before:∀ a b:List UInt8,bytesBefore a b=true→a≤b
 | [],[],h=>by simp [bytesBefore] at h
 | [],_ :: _,_=>by simp
 | _ :: _,[],h=>by simp [bytesBefore] at h
 | x :: a,y :: b,h=>by
  simp only [bytesBefore,Bool.or_eq_true,Bool.and_eq_true,decide_eq_true_eq,beq_iff_eq] at h;rcases h with h | ⟨rfl,h⟩
  ·exact List.le_of_lt (List.Lex.rel h)
  ·have:=leB_of_before a b h;rw [List.cons_le_cons_iff];exact .inr ⟨rfl,this⟩
theorem sort_keys {ℓ b:Nat} {t:List Ent} (h:Mp ℓ lab w b t):(t.map fun x=>x.1.data.toList).mergeSort leB=t.map fun x=>x.1.data.toList:=by
 refine List.mergeSort_of_pairwise ?_;have hc:=h.1.canon (Maps.string_keyed Tryz.underlying9);obtain ⟨es,he,hs,_⟩:=hc;simp only [entD,DataW.map.injEq] at he;subst he;rw [List.pairwise_map];have:=List.pairwise_map.1 hs;refine this.imp fun {x y} hxy=>?_
 simp only [leB,decide_eq_true_eq];exact leB_of_before _ _ hxy
theorem sort_c {base:Nat} {kv:Value} {ss:List (List UInt8)} (hrow:w.ownsRow base 9 1 kv ss.length (ss.map encStr)) (hsz:ss.length≤1000000) :
  Calls Tryz.prog 40 #[kv] w fun e w'=>e=.returned (.tuple #[])∧w'.ownsRow base 9 1 kv ss.length ((ss.mergeSort leB).map encStr)∧w.grownBy w' kv.ownBlock:=by
 obtain ⟨hx,h0 | ⟨g,cap,cur,hv,hbg,hblk,h1,h2,h3,h4⟩⟩:=hrow
 ·obtain ⟨rfl,hn⟩:=h0;have hss:ss=[]:=List.eq_nil_of_length_eq_zero hn;subst hss;refine (Tryz.sort_Strings_none none 0 w).mono ?_;rintro e w' ⟨rfl,rfl⟩;refine ⟨rfl,?_,World.grownBy.refl _ _⟩;simpa using World.ownsRow_nil _ _ _ _
 ·subst hv;have hl:(ss.mergeSort leB).length=ss.length:=List.length_mergeSort _;refine (Tryz.sort_Strings g 0 cap ss w (holds_of_block hblk (by simpa using h4)) (lt_of_block hblk) (by omega)).mono ?_;rintro e w' ⟨rfl,n,os,rfl⟩;exact ⟨rfl,ownsRow_sorted hl hbg hblk h1 h2 h3,grownBy_sorted _⟩
mutual
def JV.fits:JV→Prop
 | .arr l=>l.length≤1000000∧fitsL l
 | .map _ l=>l.length≤1000000∧fitsL l
 | _=>True
def fitsL:List JV→Prop
 | []=>True
 | x :: r=>JV.fits x∧fitsL r
end
theorem fitsL_iff:∀ l:List JV,fitsL l ↔ ∀ x ∈ l,x.fits
 | []=>by simp [fitsL]
 | x :: r=>by simp [fitsL,fitsL_iff r]
def Pnode (j:JV):Prop:=∀ (B:Nat) (w:World) (lab:Lab) (v:Value),B≤w.heap.size→j.fits→isJ B lab w j v →
 Calls Tryz.prog 31 #[v] w fun e w'=>∃ c lab',e=.returned (.agg c)∧isN B lab' w' j c∧Mv (fun _=>False) w lab w' lab'
end
end Go.Cf
namespace Go.Cf
open Go.RowKit Go.Conc Go.Proofs Go.Maps Go.Sort
theorem grown_setCell (w:World) (g i:Nat) (u:Value):w.grownBy (w.setCell ⟨g,i,none⟩ u) (some g):=⟨rfl,rfl,rfl,by simp [World.setCell],fun k _ hne=>Below.heap_setCell w _ u k (fun e=>hne (by rw [e]))⟩
def Lab.fin (lab:Lab) (n:Nat):Lab:=fun b=>if lab b=30 ∨ lab b=31 then (if n≤b then 9 else lab b) else lab b
structure NInv (kd:Int) (w:World) (lab:Lab) (B o:Nat) (kv:Value) (ks:List ByteArray) (l:List JV) (k:Nat) (lv:Value) (cs:List (Array Value)) (wr:World) (labr:Lab):Prop where
 out:Cl 32 labr wr o (ndC kd 0 0 false { data:=#[] } kv lv) 26
 own:w.heap.size≤o
 res:Cl 33 labr wr w.heap.size (ndC 0 0 0 false { data:=#[] } nilS nilS) 26
 keys:Rw w.heap.size 31 labr wr 9 1 kv ks.length (ks.map .string)
 list:Rw w.heap.size 30 labr wr 26 7 lv k (flat cs)
 done:isNs B labr wr (l.take k) cs
 below:Below w.heap.size w wr
 lab:∀ k,k < w.heap.size→labr k=lab k
section
variable {kd:Int} {w:World} {lab:Lab} {B o:Nat} {kv:Value} {ks:List ByteArray} {l:List JV} {k:Nat} {lv:Value} {cs:List (Array Value)} {wr w1:World} {labr lab1:Lab}
theorem NInv.mv (h:NInv kd w lab B o kv ks l k lv cs wr labr) (m:Mv (fun _=>False) wr labr w1 lab1):NInv kd w lab B o kv ks l k lv cs w1 lab1 :=
 {
  out:=h.out.mv m (fun h=>h)
  own:=h.own
  res:=h.res.mv m (fun h=>h)
  keys:=h.keys.mv m (fun h=>h)
  list:=h.list.mv m (fun h=>h)
  done:=isNs.mv m (fun h=>h) _ _ h.done
  below:=⟨m.os.trans h.below.os,m.tape.trans h.below.tape,m.output.trans h.below.output,Nat.le_trans h.below.size m.size,fun x hx=>(m.block x (Nat.lt_of_lt_of_le hx h.below.size) (fun h=>h)).trans (h.below.block x hx)⟩
  lab:=fun x hx=>(m.lab x (Nat.lt_of_lt_of_le hx h.below.size) (fun h=>h)).trans (h.lab x hx) }
theorem NInv.drew (h:NInv kd w lab B o kv ks l k lv cs wr labr):NInv kd w lab B o kv ks l k lv cs wr.drew labr:=h.mv ((Mv.refl _ wr labr).drewN 1)
theorem NInv.toMv (h:NInv kd w lab B o kv ks l k lv cs wr labr):Mv (fun _=>False) w lab wr labr :=
 ⟨h.below.os,h.below.tape,h.below.output,h.below.size,fun x hx _=>h.below.block x hx,fun x hx _=>h.lab x hx⟩
theorem Rw.own_lab {B ℓ e size n:Nat} {lab:Lab} {w:World} {v:Value} {xs:List Value} (h:Rw B ℓ lab w e size v n xs) (b:Nat) (hb:v.ownBlock=some b):lab b=ℓ∧B≤b∧b < w.heap.size :=
 ⟨h.2 b hb,h.1.lt b hb⟩
theorem NInv.cell5 (h:NInv kd w lab B o kv ks l k lv cs wr labr):wr.cell? ⟨o,5,none⟩=some kv:=blk_cell h.out.1 5
theorem NInv.step (h:NInv kd w lab B o kv ks l k lv cs wr labr) {j:JV} {c:Array Value} (hj:l[k]?=some j) (hc:isN B labr wr j c) {v1:Value}
  (hown:w1.ownsRow w.heap.size 26 7 v1 (k + 1) (flat cs ++ c.toList)) (hg:wr.grownBy w1 lv.ownBlock) (hat:v1.ownBlock=lv.ownBlock ∨ ∃ b,v1.ownBlock=some b∧wr.heap.size≤b) :
  NInv kd w lab B o kv ks l (k + 1) v1 (cs ++ [c]) (w1.setCell ⟨o,6,none⟩ v1) (labr.ext wr.heap.size 30):=by
 have m1:Mv (·=30) wr labr w1 (labr.ext wr.heap.size 30):=Mv.grown hg labr 30 (fun x hx=>(h.list.own_lab x hx).1);have o1:=h.out.mv m1 (by decide);have hl1:∀ b,v1.ownBlock=some b→labr.ext wr.heap.size 30 b=30:=by
  intro b hb;rcases hat with e | ⟨b',e,hge⟩
  ·rw [e] at hb;rw [Lab.ext_lt (h.list.own_lab b hb).2.2];exact (h.list.own_lab b hb).1
  ·rw [hb] at e
   cases e
   exact Lab.ext_ge hge
 have m2:Mv (·=32) w1 (labr.ext wr.heap.size 30) (w1.setCell ⟨o,6,none⟩ v1) (labr.ext wr.heap.size 30):=Mv.setCell _ _ _ _ o1.2;have hne:v1.ownBlock ≠ some o:=by
  intro e;have:=hl1 o e;rw [o1.2] at this;cases this
 have hB1:Below w.heap.size w w1:=h.below.grown hg h.below.size (fun x hx=>(h.list.own_lab x hx).2.1)
 exact {
  out:=⟨blk_setCell o1.1 6 v1,o1.2⟩
  own:=h.own
  res:=(h.res.mv m1 (by decide)).mv m2 (by decide)
  keys:=(h.keys.mv m1 (by decide)).mv m2 (by decide)
  list:=⟨by
   have e:flat (cs ++ [c])=flat cs ++ c.toList:=by simp [flat]
   rw [e];exact ownsRow_setCell_other hown hne v1,hl1⟩
  done:=by
   have hlt:=(List.getElem?_eq_some_iff.1 hj).1;have e:l.take (k + 1)=l.take k ++ [j]:=by
    rw [List.take_add_one,hj];rfl
   rw [e];exact isNs.mv m2 (by decide) _ _ (isNs.mv m1 (by decide) _ _ (isNs_app h.done hc))
  below:=hB1.grown (grown_setCell w1 o 6 v1) (Nat.le_trans h.below.size hg.size) (fun x hx=>by cases hx;exact h.own)
  lab:=fun x hx=>by rw [Lab.ext_lt (Nat.lt_of_lt_of_le hx h.below.size)];exact h.lab x hx }
theorem NInv.finish (h:NInv kd w lab B o kv ks l l.length lv cs wr labr) (hB:B≤w.heap.size) :
  Mv (fun _=>False) w lab wr (Lab.fin labr w.heap.size)∧Rw B 9 (Lab.fin labr w.heap.size) wr 9 1 kv ks.length (ks.map .string)∧Rw B 9 (Lab.fin labr w.heap.size) wr 26 7 lv l.length (flat cs)∧isNs B (Lab.fin labr w.heap.size) wr l cs:=by
 have m:Mv (fun x=>x=30 ∨ x=31) wr labr wr (Lab.fin labr w.heap.size) :=
  ⟨rfl,rfl,rfl,Nat.le_refl _,fun _ _ _=>rfl,fun b _ hn=>if_neg hn⟩
 refine ⟨⟨h.below.os,h.below.tape,h.below.output,h.below.size,fun x hx _=>h.below.block x hx,fun x hx _=>?_⟩,?_,?_,?_⟩
 ·show (if labr x=30 ∨ labr x=31 then (if w.heap.size≤x then 9 else labr x) else labr x)=lab x
  rw [if_neg (show ¬ w.heap.size≤x by omega),ite_self];exact h.lab x hx
 ·refine ⟨(h.keys.low hB).1,fun b hb=>?_⟩;have:=h.keys.own_lab b hb;show (if labr b=30 ∨ labr b=31 then (if w.heap.size≤b then 9 else labr b) else labr b)=9;rw [if_pos (.inr this.1),if_pos this.2.1]
 ·refine ⟨(h.list.low hB).1,fun b hb=>?_⟩;have:=h.list.own_lab b hb;show (if labr b=30 ∨ labr b=31 then (if w.heap.size≤b then 9 else labr b) else labr b)=9;rw [if_pos (.inl this.1),if_pos this.2.1]
 ·have:=isNs.mv m (by decide) _ _ h.done;rwa [List.take_length] at this
theorem NInv.told (h:NInv kd w lab B o kv ks l l.length lv cs wr labr) (hB:B≤w.heap.size) (hg:wr.grownBy w1 (some w.heap.size)) :
  ∃ lab',Mv (fun _=>False) w lab w1 lab'∧Rw B 9 lab' w1 9 1 kv ks.length (ks.map .string)∧Rw B 9 lab' w1 26 7 lv l.length (flat cs)∧isNs B lab' w1 l cs:=by
 obtain ⟨r1,r2,r3⟩:(Rw B 9 (Lab.fin labr w.heap.size) wr 9 1 kv ks.length (ks.map .string))∧(Rw B 9 (Lab.fin labr w.heap.size) wr 26 7 lv l.length (flat cs))∧isNs B (Lab.fin labr w.heap.size) wr l cs:=(h.finish hB).2;have m1:=(h.finish hB).1;have h33:Lab.fin labr w.heap.size w.heap.size=33:=by
  have:=h.res.2;unfold Lab.fin;rw [this,if_neg (by decide)]
 have mm:Mv (·=33) wr (Lab.fin labr w.heap.size) w1 ((Lab.fin labr w.heap.size).ext wr.heap.size 33):=Mv.grown hg _ 33 (fun x hx=>by cases hx;exact h33);refine ⟨_,?_,r1.mv mm (by decide),r2.mv mm (by decide),isNs.mv mm (by decide) _ _ r3⟩;have hb:=h.below.grown hg h.below.size (fun x hx=>by cases hx;omega);exact ⟨hb.os,hb.tape,hb.output,hb.size,fun x hx _=>hb.block x hx,fun x hx _=>by rw [Lab.ext_lt (Nat.lt_of_lt_of_le hx h.below.size)];exact m1.lab x hx (fun h=>h)⟩
theorem set7 {r:Nat} {w:World} {a0 a1 a2 a3 a4 a5 a6:Value} {t:TypeId} (v0 v1 v2 v3 v4 v5 v6:Value) (h:w.heap[r]?=some (.cells #[a0,a1,a2,a3,a4,a5,a6] t)) :
  ((
   (((((w.setCell ⟨r,0,none⟩ v0).setCell ⟨r,1,none⟩ v1).setCell ⟨r,2,none⟩ v2).setCell ⟨r,3,none⟩ v3).setCell ⟨r,4,none⟩ v4).setCell ⟨r,5,none⟩ v5).setCell ⟨r,6,none⟩ v6).heap[r]?=some (.cells #[v0,v1,v2,v3,v4,v5,v6] t) ∧
   w.grownBy (((((((w.setCell ⟨r,0,none⟩ v0).setCell ⟨r,1,none⟩ v1).setCell ⟨r,2,none⟩ v2).setCell ⟨r,3,none⟩ v3).setCell ⟨r,4,none⟩ v4).setCell ⟨r,5,none⟩ v5).setCell ⟨r,6,none⟩ v6) (some r) :=
 by
 have h0:(w.setCell ⟨r,0,none⟩ v0).heap[r]?=some (.cells #[v0,a1,a2,a3,a4,a5,a6] t):=blk_setCell h 0 v0;have h1:=blk_setCell h0 1 v1;have h2:=blk_setCell (show _=some (Obj.cells #[v0,v1,a2,a3,a4,a5,a6] t) from h1) 2 v2;have h3:=blk_setCell (show _=some (Obj.cells #[v0,v1,v2,a3,a4,a5,a6] t) from h2) 3 v3;have h4:=blk_setCell (show _=some (Obj.cells #[v0,v1,v2,v3,a4,a5,a6] t) from h3) 4 v4;have h5:=blk_setCell (show _=some (Obj.cells #[v0,v1,v2,v3,v4,a5,a6] t) from h4) 5 v5;have h6:=blk_setCell (show _=some (Obj.cells #[v0,v1,v2,v3,v4,v5,a6] t) from h5) 6 v6;exact ⟨h6,(((((((grown_setCell _ r 0 v0).trans (grown_setCell _ r 1 v1)).trans (grown_setCell _ r 2 v2)).trans (grown_setCell _ r 3 v3)).trans (grown_setCell _ r 4 v4)).trans (grown_setCell _ r 5 v5)).trans (grown_setCell _ r 6 v6))⟩
theorem map_look {ℓ b:Nat} {t:List Ent} {w:World} {lab:Lab} (h:Mp ℓ lab w b t) (i:Nat) (x:Ent) (hx:t[i]?=some x):(Instr.lookup 61 (.map (some b)) (.string x.1) false).run Tryz.prog w=.ok x.2.2 w:=by
 have K:=Maps.string_keyed (P:=Tryz.prog) Tryz.underlying9;have hm:((Lit.string x.1.data.toList,DataW.held x.2.2):Lit × DataW Value) ∈ t.map fun x=>((Lit.string x.1.data.toList,DataW.held x.2.2):Lit × DataW Value) :=
  List.mem_map.2 ⟨x,List.mem_of_getElem? hx,rfl⟩
 obtain ⟨es,he,hs,hk⟩:=h.1.canon K;obtain ⟨es',he',hk'⟩:=h.1.keysOf;simp only [entD,DataW.map.injEq] at he he';subst he;subst he';obtain ⟨key,hkey⟩:=hk' _ hm;obtain ⟨y,rfl,hy,_⟩:=Maps.keyOf_str Tryz.underlying9 hkey;simp only [Lit.string.injEq] at hy;subst hy;have e1:encStr x.1.data.toList=.string x.1:=by simp [encStr]
 rw [e1] at hkey;obtain ⟨v,ps,hrun,hR⟩:=h.1.lookup K Tryz.underlying61 (Tryz.zeroValue20 w) (zd:=.held .nilIface) (zp:=[]) rfl hkey;have hat:(entD t).atKey (.string x.1.data.toList) (.held .nilIface)=.held x.2.2:=WideAt.atKey_mem _ (hk _ hm) (Maps.apart_of_rising hs) hm;rw [hat] at hR;simp only [anyR,Option.some.injEq,Prod.mk.injEq,DataW.held.injEq] at hR;rw [hrun,hR.1]
theorem sorted_keys {ℓ b:Nat} {t:List Ent} {w:World} {lab:Lab} (h:Mp ℓ lab w b t) {left:Lit→Bool} {ss:List (List UInt8)} (hC:Collected (entD t) left ss) (hl:∀ kl,left kl=false) :
  (ss.mergeSort leB).map encStr=(t.map (·.1)).map .string∧ss.length=t.length:=by
 have hp:=hC.perm h.1 (Maps.string_keyed Tryz.underlying9) Tryz.underlying9 hl;have e:strKeys (entD t)=t.map fun x=>x.1.data.toList:=by simp [strKeys,entD,strOf]
 rw [e] at hp;refine ⟨?_,by simpa using hp.length_eq⟩;rw [mergeSort_of_perm hp,sort_keys h,List.map_map,List.map_map];refine List.map_congr_left fun x _=>?_
 simp [encStr]
end
theorem own_slice {base e size n:Nat} {w:World} {v:Value} {xs:List Value} (h:w.ownsRow base e size v n xs):∃ a cap,v=.slice a n cap:=by
 obtain ⟨_,⟨h0,hn⟩ | ⟨g,cap,cur,hv,_⟩⟩:=h
 ·exact ⟨none,0,by rw [h0,hn]⟩
 ·exact ⟨_,_,hv⟩
theorem own_one {base e size n:Nat} {w:World} {v:Value} {xs:List Value} (h:w.ownsRow base e size v n xs):v.oneCell'=true:=by
 obtain ⟨a,cap,rfl⟩:=own_slice h;rfl
theorem isN.shape {B:Nat} {lab:Lab} {w:World}:∀ {j:JV} {c:Array Value},isN B lab w j c→∃ k n f b s kv lv,c=ndC k n f b s kv lv∧kv.oneCell'=true∧lv.oneCell'=true
 | .int _,_,h=>⟨_,_,_,_,_,_,_,h,rfl,rfl⟩
 | .num _,_,h=>⟨_,_,_,_,_,_,_,h,rfl,rfl⟩
 | .tr _,_,h=>⟨_,_,_,_,_,_,_,h,rfl,rfl⟩
 | .txt _,_,h=>⟨_,_,_,_,_,_,_,h,rfl,rfl⟩
 | .arr _,_,h=>by
  simp only [isN] at h;obtain ⟨_,_,h,hl,_⟩:=h;exact ⟨_,_,_,_,_,_,_,h,rfl,own_one hl.1⟩
 | .map _ _,_,h=>by
  simp only [isN] at h;obtain ⟨_,_,_,h,hk,hl,_⟩:=h;exact ⟨_,_,_,_,_,_,_,h,own_one hk.1,own_one hl.1⟩
theorem nd_one {k n:Int} {f:Nat} {b:Bool} {s:ByteArray} {kv lv:Value} (h1:kv.oneCell'=true) (h2:lv.oneCell'=true):∀ u ∈ [Value.int .i64 k,.int .i64 n,.float .f64 f,.bool b,.string s,kv,lv],u.oneCell'=true:=by
 intro u hu;simp only [List.mem_cons,List.not_mem_nil,or_false] at hu;rcases hu with rfl | rfl | rfl | rfl | rfl | rfl | rfl
 ·rfl
 ·rfl
 ·rfl
 ·rfl
 ·rfl
 ·exact h1
 ·exact h2
theorem info26z:(Tryz.prog.info? 26).map (fun i=>(i.zero,i.size,i.bytes))=some (some (.agg (ndC 0 0 0 false { data:=#[] } nilS nilS)),7,96):=by kernel_rfl
section
variable {kd:Int} {w:World} {lab:Lab} {B o:Nat} {kv:Value} {ks:List ByteArray} {l:List JV} {k:Nat} {lv:Value} {cs:List (Array Value)} {wr w1:World} {labr lab1:Lab} {M:Nat→Prop} {b:Nat} {t:List Ent}
structure NB (kd:Int) (B0 o:Nat) (kv:Value) (ks:List ByteArray) (lv:Value) (b:Nat) (t:List Ent) (wr:World) (labr:Lab):Prop where
 out:Cl 32 labr wr o (ndC kd 0 0 false { data:=#[] } kv lv) 26
 keys:Rw B0 31 labr wr 9 1 kv ks.length (ks.map .string)
 mp:Mp 6 labr wr b t
theorem NInv.nb (h:NInv kd w lab B o kv ks l k lv cs wr labr) (hm:Mp 6 lab w b t):NB kd w.heap.size o kv ks lv b t wr labr:=⟨h.out,h.keys,hm.mv h.toMv (fun h=>h)⟩
theorem NB.mv {B0:Nat} (h:NB kd B0 o kv ks lv b t wr labr) (m:Mv M wr labr w1 lab1) (h1:¬ M 32) (h2:¬ M 31) (h3:¬ M 6):NB kd B0 o kv ks lv b t w1 lab1:=⟨h.out.mv m h1,h.keys.mv m h2,h.mp.mv m h3⟩
theorem NB.reads {B0 g cap i:Nat} (h:NB kd B0 o (.slice (some ⟨g,0,none⟩) ks.length cap) ks lv b t wr labr) (hk:ks=t.map (·.1)) {x:Ent} (hx:t[i]?=some x) :
  wr.cell? ⟨o,6,none⟩=some lv∧wr.frozen? ⟨o,6,none⟩=false∧wr.cell? ⟨o,5,none⟩=some (.slice (some ⟨g,0,none⟩) ks.length cap)∧wr.cell? ⟨g,i,none⟩=some (.string x.1) ∧
   (Instr.lookup 61 (.map (some b)) (.string x.1) false).run Tryz.prog wr=.ok x.2.2 wr:=by
 have hi:i < t.length:=(List.getElem?_eq_some_iff.1 hx).1;refine ⟨blk_cell h.out.1 6,blk_free h.out.1 6,blk_cell h.out.1 5,?_,map_look h.mp i x hx⟩;rw [h.keys.1.cellAt i (by rw [hk];simpa using hi),hk];simp [hx]
theorem NInv.start (h1:w1.heap[w.heap.size]?=some (.cells (ndC 0 0 0 false { data:=#[] } nilS nilS) 26)) (h2:w1.heap[w.heap.size + 1]?=some (.cells (ndC kd 0 0 false { data:=#[] } kv nilS) 26))
  (hrow:w1.ownsRow w.heap.size 9 1 kv ks.length (ks.map .string)) (hb:Below w.heap.size w w1) (lab:Lab):∃ labr,NInv kd w lab B (w.heap.size + 1) kv ks l 0 nilS [] w1 labr:=by
 have n1:kv.ownBlock ≠ some w.heap.size:=own_ne_blk hrow h1 (by decide);have n2:kv.ownBlock ≠ some (w.heap.size + 1):=own_ne_blk hrow h2 (by decide);refine ⟨fun x=>if x < w.heap.size then lab x else if x=w.heap.size then 33 else if x=w.heap.size + 1 then 32 else 31,?_⟩
 exact {
  out:=⟨h2,by dsimp only;rw [if_neg (by omega),if_neg (by omega),if_pos rfl]⟩
  own:=by omega
  res:=⟨h1,by dsimp only;rw [if_neg (by omega),if_pos rfl]⟩
  keys:=⟨hrow,fun x hx=>by
   have hl:=(hrow.lt x hx).1
   dsimp only
   rw [if_neg (by omega),if_neg (fun e=>n1 (by rw [hx,e])),if_neg (fun e=>n2 (by rw [hx,e]))]⟩
  list:=⟨World.ownsRow_nil _ _ _ _,fun x hx=>by cases hx⟩
  done:=by simp [isNs]
  below:=hb
  lab:=fun x hx=>if_pos hx }
end
end Go.Cf
namespace Go.Cf
open Go.RowKit Go.Conc Go.Proofs Go.Maps
attribute [local go_sem ↓] nt_61_2 nt_61_22 nt_61_4 nt_61_9 nt_61_75 nt_61_61
attribute [local go_sem] run_store_flt
section
variable {w:World}
abbrev z26:Obj:=.cells #[i64 0,i64 0,.float .f64 0,.bool false,.string { data:=#[] },.slice none 0 0,.slice none 0 0] 26
abbrev n26 (kv lv:Value):Array Value:=#[i64 6,i64 0,.float .f64 0,.bool false,.string { data:=#[] },kv,lv]
set_option maxRecDepth 100000 in
set_option maxHeartbeats 2000000 in
theorem node_map (ks:List ByteArray) (l:List JV) (hl:∀ j ∈ l,Pnode j):Pnode (.map ks l):=by
 intro B w lab v hB hfit hj;simp only [isJ] at hj;obtain ⟨b,t,rfl,hmp,hks,hls,hjs⟩:=hj;simp only [JV.fits] at hfit;have hown:=hmp.1;obtain ⟨D,hD⟩:∃ D,D=entD t:=⟨_,rfl⟩;obtain ⟨n,hn⟩:∃ n,n=t.length:=⟨_,rfl⟩;have hsize:Maps.size D=l.length:=by rw [hD,← hls];simp [Maps.size,entD]
 have hmax:Maps.size D≤1000000:=by rw [hsize];exact hfit.1
 rw [← hD,← hn] at hown;have HD:=Lib.hid hD;have HN:=Lib.hid hn;have HJ:=Lib.hid hjs;have HL:=Lib.hid hl;clear hD hn hjs hl;have hbl:=hown.lt;have bel2:Below w.heap.size w ((w.alloc z26).alloc (.cells (n26 (.slice none 0 0) (.slice none 0 0)) 26)):=((Below.refl _ w).alloc (Nat.le_refl _) _).alloc (by rw [World.size_alloc];omega) _;have ho2:=(hown.alloc z26).alloc (.cells (n26 (.slice none 0 0) (.slice none 0 0)) 26);have hr1:((w.alloc z26).alloc (.cells (n26 (.slice none 0 0) (.slice none 0 0)) 26)).heap[w.heap.size]?=some z26:=by
  rw [Below.heap_alloc _ _ _ (by rw [World.size_alloc];omega)];exact heap_alloc_new w _
 have hr2:((w.alloc z26).alloc (.cells (n26 (.slice none 0 0) (.slice none 0 0)) 26)).heap[w.heap.size + 1]?=some (.cells (n26 (.slice none 0 0) (.slice none 0 0)) 26):=by
  rw [← World.size_alloc w z26];exact heap_alloc_new _ _
 have hsz:((w.alloc z26).alloc (.cells (n26 (.slice none 0 0) (.slice none 0 0)) 26)).heap.size=w.heap.size + 1 + 1:=by rw [World.size_alloc,World.size_alloc]
 have HB:=Lib.hid bel2;have H1:=Lib.hid hr1;have H2:=Lib.hid hr2;have HS:=Lib.hid hsz;clear bel2 hr1 hr2 hsz;go_enter Tryz.func31,Tryz.ntmps31;go_wp2_with (at_range;refine wpList_range_own _ rfl _ 61 rfl 9 20 (Maps.string_keyed Tryz.underlying9) Tryz.underlying61 anyR b n D rfl ho2 ?_;intro w0 hrg0 hg0 hs0);rw [HS.out] at hrg0 hs0;have hb0:Below w.heap.size w w0:=HB.out.grown hg0 (by rw [HS.out];omega) (fun j hj=>by cases hj);have hc1:w0.heap[w.heap.size]?=some z26:=(hg0.block _ (by rw [HS.out];omega) (by simp)).trans H1.out;have hc2:w0.heap[w.heap.size + 1]?=some (.cells (n26 (.slice none 0 0) (.slice none 0 0)) 26):=(hg0.block _ (by rw [HS.out];omega) (by simp)).trans H2.out;clear hg0 hs0;go_frame
 go_loopw [] (fun wr=>∃ (left:Lit→Bool) (cnt:Nat) (ss:List (List UInt8)) (kv:Value),wr.ranges Tryz.prog 9 anyR b (w.heap.size + 1 + 1) n D left cnt∧ss.length + cnt≤Maps.size D ∧
   wr.ownsRow w.heap.size 9 1 kv ss.length (ss.map encStr)∧wr.heap[w.heap.size]?=some z26∧wr.heap[w.heap.size + 1]?=some (.cells (n26 kv (.slice none 0 0)) 26)∧Collected D left ss∧Below w.heap.size w wr)
  (fun wr=>wr.rangeLeft b (w.heap.size + 1 + 1))
 case atStart=>exact ⟨_,_,[],.slice none 0 0,hrg0,by simp,World.ownsRow_nil _ _ _ _,hc1,hc2,Collected.start D,hb0⟩
 case round =>
  obtain ⟨left,cnt,ss,kv,hrg,hcs,hrow,hz1,hz2,hC,hnx⟩:=hrel;go_wp2_with (at_next;go_loud (refine wpList_next_ranges _ rfl _ rfl 9 (Maps.string_keyed Tryz.underlying9) anyR encStr (fun v=>v) (fun key kl hk=>by obtain ⟨x,hx,_⟩:=Maps.keyOf_str Tryz.underlying9 hk;exact ⟨x,hx⟩) (fun v y hv=>⟨v,rfl⟩) b (w.heap.size + 1 + 1) n _ _ _ (by simp [Act.eval]) hrg ?_ ?_))
  ·intro _ hleft;obtain ⟨hsort,hlen⟩:=sorted_keys hmp (HD.out ▸ hC) hleft;have hkl:ss.length=ks.length:=by rw [hlen,← hks];simp
   have hll:ks.length=l.length:=by rw [← hks,← hls];simp
   clear hC hleft hrg hcs hrg0 hb0 hc1 hc2;have hss:ss.length≤1000000:=by omega
   have n1:kv.ownBlock ≠ some w.heap.size:=own_ne_blk hrow hz1 (by decide);have n2:kv.ownBlock ≠ some (w.heap.size + 1):=own_ne_blk hrow hz2 (by decide);have c5:wr.cell? ⟨w.heap.size + 1,5,none⟩=some kv:=blk_cell hz2 5;go_wp2_with fail;refine (sort_c hrow hss).mono ?_;rintro e w3 ⟨rfl,hrow3,hg3⟩;rw [hsort,hkl,hks] at hrow3;have hz1':w3.heap[w.heap.size]?=some z26:=(hg3.block _ (lt_of_block hz1) (fun e=>n1 e.symm)).trans hz1;have hz2':w3.heap[w.heap.size + 1]?=some (.cells (n26 kv (.slice none 0 0)) 26):=(hg3.block _ (lt_of_block hz2) (fun e=>n2 e.symm)).trans hz2;have hb3:Below w.heap.size w w3:=hnx.grown hg3 hnx.size (fun x hx=>(hrow.lt x hx).1);obtain ⟨labr,hN⟩:=NInv.start (B:=B) (l:=l) hz1' hz2' hrow3 hb3 lab;clear hz1 hz2 hrow hnx c5 hz1' hz2' hrow3 hb3 hg3 n1 n2 hsort hlen hkl;go_wp2_with fail;go_loopw [13] (fun i wr=>∃ (k:Nat) (lv:Value) (cs:List (Array Value)) (labr:Lab),k≤l.length∧i=.int .i64 k∧NInv 6 w lab B (w.heap.size + 1) kv ks l k lv cs wr labr) (fun i _=>l.length - (RowKit.intOf i).toNat)
   case atStart=>exact ⟨0,nilS,[],labr,Nat.zero_le _,rfl,hN⟩
   case round =>
    obtain ⟨k,lv,cs,labk,hk,rfl,hI⟩:=hrel;have hk0:(0:Int)≤(k:Int):=Int.natCast_nonneg _;obtain ⟨ka,kcap,hkv⟩:=own_slice hI.keys.1;have hc5:=hI.cell5;have hlen:l.length≤1000000:=hsize ▸ hmax;by_cases hlt:k < l.length
    ·have hk1:(k:Int) < (ks.length:Int):=by omega
     obtain ⟨x,hx⟩:∃ x,t[k]?=some x:=⟨t[k]'(by rw [← hls] at hlt;simpa using hlt),List.getElem?_eq_getElem _⟩;obtain ⟨g,cap,rfl,_,_⟩:=hI.keys.1.form (by omega);have hNB:=(hI.drew).nb hmp;obtain ⟨q1,q2,q3,q4,q5⟩:=hNB.reads hks.symm hx;have hjk:l[k]?=some x.2.1:=by rw [← hls];simp [hx]
     have hPj:Pnode x.2.1:=HL.out _ (List.mem_of_getElem? hjk);have hfj:x.2.1.fits:=(fitsL_iff l).1 hfit.2 _ (List.mem_of_getElem? hjk);have hjx:isJ B labk wr.drew x.2.1 x.2.2:=isJ.mv hI.drew.toMv (fun h=>h) _ _ (isJs.get k _ _ HJ.out hjk (by simp [hx]));obtain ⟨i0,hi0,hz0,hz1,hz2⟩:=info_parts info26z;clear hN;go_wp2_with fail
     go_region_law (first
       | (
        go_simp
        go_at_call 31
        refine (hPj B _ labk _ (Nat.le_trans hB hI.drew.below.size) hfj hjx).mono ?_;rintro e w1 ⟨c,lab1,rfl,hc,m1⟩;obtain ⟨kk,n',f',b',s',kv',lv',rfl,hone1,hone2⟩:=hc.shape;have hI1:=hI.drew.mv m1;have hNB1:=hNB.mv m1 (fun h=>h) (fun h=>h) (fun h=>h);have hB1:=hI1.below.size;have p1:=(hNB1.reads hks.symm hx).1
        have p2:∀ o,(w1.alloc o).cell? ⟨w.heap.size + 1,6,none⟩=some lv:=fun o=>(World.cell?_alloc_lt _ _ _ (World.block_lt_of_cell? _ _ p1)).trans p1)
       | (
        refine step_append_lies _ (by rfl) _ _ _ (by rfl) w.heap.size 26 i0 _ 7 96 Tryz.underlying24 hi0 hz0 hz1 hz2 rfl (by omega) lv k (flat cs) (by rfl) (hI1.list.1.alloc _)
         ⟨w1.heap.size,0,none⟩ 1 1 [.int .i64 kk,.int .i64 n',.float .f64 f',.bool b',.string s',kv',lv'] (by rfl) (by rfl) (World.news_of_block (cs:=ndC kk n' f' b' s' kv' lv') (t:=26) (fr:=(0,0)) (heap_alloc_new w1 _)) (nd_one hone1 hone2)
         (by omega) (by simp only [maxLen];omega) (by omega) (by simp;omega) (w1.heap.size + 1) (by simp) ?_
        intro gg cap2 w2 hown2 hg2 hat2 hlt2;have hg3:=World.grownBy.trans (World.grownBy_alloc w1 (.cells (ndC kk n' f' b' s' kv' lv') 26) lv.ownBlock) hg2;have hNB2:=hNB1.mv (M:=(·=30)) (Mv.grown hg3 lab1 30 (fun x hx=>(hI1.list.own_lab x hx).1)) (by decide) (by decide) (by decide)
        obtain ⟨r1,r2,_⟩:=hNB2.reads hks.symm hx))
     all_goals
      have hst:=hI1.step hjk hc hown2 hg3 (by
       rcases hat2 with e | e
       ·exact .inl e.symm
       ·exact .inr ⟨gg,rfl,by omega⟩)
      clear hNB hNB1 hNB2 hI1 hI hc hown2 hg2 hg3 hat2 hlt2 p1 p2 r1 r2 q1 q2 q3 q4 q5 m1 hjx hPj hfj;go_wp2;go_roundw
      case rel=>exact ⟨_,_,_,_,_,_,_,_,_,_,_,_,_,_,_,_,_,_,_,_,_,⟨k + 1,_,_,_,by omega,by go_num,hst⟩,by
       simp
       (repeat' apply And.intro) <;> first | rfl | exact hll.symm⟩
      case measure=>simp [RowKit.intOf];omega
    ·have hke:k=l.length:=by omega
     subst hke;have hk1:¬ ((l.length:Int) < (ks.length:Int)):=by omega
     obtain ⟨la,lcap,hlv⟩:=own_slice hI.list.1;subst hkv;subst hlv;have hres:=hI.res.1;have hout:=hI.out.1;have o0:=blk_cell hout 0;have o1:=blk_cell hout 1;have o2:=blk_cell hout 2;have o3:=blk_cell hout 3;have o4:=blk_cell hout 4;have o5:=blk_cell hout 5;have o6:=blk_cell hout 6;have z0:=blk_cell hres 0;have z1:=blk_cell hres 1;have z2:=blk_cell hres 2;have z3:=blk_cell hres 3;have z4:=blk_cell hres 4;have z5:=blk_cell hres 5;have z6:=blk_cell hres 6;have f0:=blk_free hres 0;have f1:=blk_free hres 1;have f2:=blk_free hres 2;have f3:=blk_free hres 3;have f4:=blk_free hres 4;have f5:=blk_free hres 5;have f6:=blk_free hres 6;have S7:=Lib.hid (set7 (.int .i64 6) (.int .i64 0) (.float .f64 0) (.bool false) (.string { data:=#[] }) (.slice ka l.length kcap) (.slice la l.length lcap) hres);have HI:=Lib.hid hI;clear hI hres hout hN;go_wp2;refine bodyPost_ret (results_cell rfl rfl S7.out.1 Tryz.underlying26 rfl info26) rfl ?_;obtain ⟨lab',m,r1,r2,r3⟩:=HI.out.told hB S7.out.2;refine ⟨_,rfl,lab',?_,m⟩;simp only [isN];exact ⟨.slice ka ks.length kcap,_,cs,by rw [hll],r1,r2,r3⟩
  ·intro x c kl yd yp w2 cnt2 hkey hlk hv1 hv2 hat hrg2 hlt hg2 hs2 hen;obtain ⟨x',ex,rfl,_⟩:=Maps.keyOf_str Tryz.underlying9 hkey;obtain rfl:x=x':=encStr_inj ex;have hit:∃ since seen c0,wr.heap[w.heap.size + 1 + 1]?=some (.mapIter (some b) since seen c0):=by
    obtain ⟨es,clock,since,seen,c0,_,_,_,_,hi,_⟩:=hrg;exact ⟨_,_,_,hi⟩
   obtain ⟨q1,q2,q3,hit⟩:=hit;have hkvne:∀ k,kv.ownBlock=some k→k ≠ w.heap.size + 1 + 1:=by
    rintro k hk rfl;obtain ⟨_,⟨h0,_⟩ | ⟨g,cap,cur,hv,_,hblk,_⟩⟩:=hrow
    ·rw [h0] at hk;cases hk
    ·rw [hv] at hk;simp only [Value.ownBlock,Option.some.injEq] at hk;subst hk;rw [hit] at hblk;cases hblk
   have hrow2:w2.ownsRow w.heap.size 9 1 kv ss.length (ss.map encStr):=ownsRow_kept hrow hg2 (fun k hk e=>hkvne k hk (by simpa using e));have hz1':w2.heap[w.heap.size]?=some z26:=(hg2.block _ (lt_of_block hz1) (by simp;omega)).trans hz1;have hz2':w2.heap[w.heap.size + 1]?=some (.cells (n26 kv (.slice none 0 0)) 26):=(hg2.block _ (lt_of_block hz2) (by simp)).trans hz2;have hnx2:Below w.heap.size w w2:=hnx.grown hg2 hnx.size (fun j hj=>by cases hj;omega);have c5:w2.cell? ⟨w.heap.size + 1,5,none⟩=some kv:=blk_cell hz2' 5;have hlt1:=lt_of_block hz2';have hB:w.heap.size≤w2.heap.size:=hnx2.size;clear hs2 hg2 hit;go_wp2_with (at_builtin;refine app_one w.heap.size rfl _ _ 23 9 (.string { data:=#[] }) 1 16 rfl Tryz.underlying23 info9 rfl (by decide) (by decide) kv ss.length (ss.map encStr) [encStr x] rfl rfl rfl (by simp [Value.oneCell',encStr]) hrow2 hB (by omega) ?_);intro v1 w3 hown3 hg3 hat3;have hne1:∀ k,kv.ownBlock=some k→k ≠ w.heap.size∧k ≠ w.heap.size + 1:=by
    intro k hk;obtain ⟨_,⟨h0,_⟩ | ⟨g,cap,cur,hv,_,hblk,_⟩⟩:=hrow2
    ·rw [h0] at hk;cases hk
    ·rw [hv] at hk;simp only [Value.ownBlock,Option.some.injEq] at hk;subst hk;refine ⟨?_,?_⟩
     ·rintro e;rw [e,hz1'] at hblk;injection hblk with hblk;injection hblk with _ h2 _;cases h2
     ·rintro e;rw [e,hz2'] at hblk;injection hblk with hblk;injection hblk with _ h2 _;cases h2
   have hz1'':w3.heap[w.heap.size]?=some z26:=(hg3.block _ (lt_of_block hz1') (fun e=>(hne1 _ e.symm).1 rfl)).trans hz1';have hz2'':w3.heap[w.heap.size + 1]?=some (.cells (n26 kv (.slice none 0 0)) 26):=(hg3.block _ hlt1 (fun e=>(hne1 _ e.symm).2 rfl)).trans hz2';have c5':w3.cell? ⟨w.heap.size + 1,5,none⟩=some kv:=blk_cell hz2'' 5;have f5':w3.frozen? ⟨w.heap.size + 1,5,none⟩=false:=blk_free hz2'' 5;obtain ⟨g,cap,e7,_,_⟩:=hown3.form (by omega);subst e7;have hneb:b ≠ w.heap.size + 1:=by omega
   have hkb:∀ k,kv.ownBlock=some k→k ≠ b:=by
    intro k hk;obtain ⟨es,clock,since,seen,c0,hb',_⟩:=hrg2;obtain ⟨_,⟨h0,_⟩ | ⟨g',cap',cur,hv,_,hblk,_⟩⟩:=hrow2
    ·rw [h0] at hk;cases hk
    ·rw [hv] at hk;simp only [Value.ownBlock,Option.some.injEq] at hk;subst hk;rintro e;rw [e,hb'] at hblk;cases hblk
   have hrg3:=(hrg2.kept hg3 (fun e=>hkb _ e.symm rfl) (fun e=>hkvne _ e.symm rfl)).kept (grown_setCell w3 (w.heap.size + 1) 5 (.slice (some ⟨g,0,none⟩) (ss.length + 1) cap)) (by simp;omega) (by simp);have hgne:g ≠ w.heap.size + 1:=by
    rintro rfl;obtain ⟨_,⟨h0,_⟩ | ⟨g',cap',cur,hv,_,hblk,_⟩⟩:=hown3
    ·cases h0
    ·simp only [Value.slice.injEq,Option.some.injEq,Addr.mk.injEq] at hv;obtain ⟨⟨rfl,_,_⟩,_,rfl⟩:=hv;rw [hz2''] at hblk;injection hblk with hblk;injection hblk with _ h2 _;cases h2
   have hrow4:(w3.setCell ⟨w.heap.size + 1,5,none⟩ (.slice (some ⟨g,0,none⟩) (ss.length + 1) cap)).ownsRow w.heap.size 9 1 (.slice (some ⟨g,0,none⟩) (ss.length + 1) cap) (ss.length + 1) (ss.map encStr ++ [encStr x]) :=
    ownsRow_setCell_other hown3 (by simp only [Value.ownBlock,ne_eq,Option.some.injEq];exact hgne) _
   have hz1w:(w3.setCell ⟨w.heap.size + 1,5,none⟩ (.slice (some ⟨g,0,none⟩) (ss.length + 1) cap)).heap[w.heap.size]?=some z26:=by
    rw [Below.heap_setCell _ _ _ _ (by simp)];exact hz1''
   have hz2w:=blk_setCell hz2'' 5 (.slice (some ⟨g,0,none⟩) (ss.length + 1) cap);have hnx3:Below w.heap.size w (w3.setCell ⟨w.heap.size + 1,5,none⟩ (.slice (some ⟨g,0,none⟩) (ss.length + 1) cap)) :=
    (hnx2.grown hg3 hnx2.size (fun j hj=>(hrow2.lt j hj).1)).grown (grown_setCell w3 _ 5 _) (Nat.le_trans hnx2.size hg3.size) (fun j hj=>by cases hj;omega)
   clear hneb hkb hgne hown3 hg3 hat3 hne1 hz1'' hz2'' hnx2 hz1' hz2' hrow2 hkvne c5;go_wp2;go_roundw
   case rel=>exact ⟨_,_,_,_,_,_,_,_,_,_,_,⟨_,cnt2,ss ++ [x],_,hrg3,by simp;omega,by simpa using hrow4,hz1w,hz2w,hC.step hlk hat,hnx3⟩,by simp;exact ⟨rfl,rfl,rfl,rfl,rfl,rfl,rfl,rfl,rfl,rfl,rfl⟩⟩
   case measure=>rw [hrg3.left_eq,hrg.left_eq];exact hlt
end
end Go.Cf
namespace Go.Cf
open Go.RowKit Go.Conc Go.Proofs Go.Maps
attribute [local go_sem ↓] nt_75_2 nt_75_22 nt_75_4 nt_75_9 nt_75_75
attribute [local go_sem] run_store_flt
section
variable {w:World}
set_option maxRecDepth 100000 in
set_option maxHeartbeats 2000000 in
theorem node_arr (l:List JV) (hl:∀ j ∈ l,Pnode j):Pnode (.arr l):=by
 intro B w lab v hB hfit hj;simp only [isJ] at hj;obtain ⟨s,xs,rfl,hrw,hjs⟩:=hj;simp only [JV.fits] at hfit;obtain ⟨ka,kcap,rfl⟩:=own_slice hrw.1;have bel2:Below w.heap.size w ((w.alloc z26).alloc (.cells (ndC 5 0 0 false { data:=#[] } nilS nilS) 26)):=((Below.refl _ w).alloc (Nat.le_refl _) _).alloc (by rw [World.size_alloc];omega) _;have hr1:((w.alloc z26).alloc (.cells (ndC 5 0 0 false { data:=#[] } nilS nilS) 26)).heap[w.heap.size]?=some z26:=by
  rw [Below.heap_alloc _ _ _ (by rw [World.size_alloc];omega)];exact heap_alloc_new w _
 have hr2:((w.alloc z26).alloc (.cells (ndC 5 0 0 false { data:=#[] } nilS nilS) 26)).heap[w.heap.size + 1]?=some (.cells (ndC 5 0 0 false { data:=#[] } nilS nilS) 26):=by
  rw [← World.size_alloc w z26];exact heap_alloc_new _ _
 obtain ⟨labr,hN⟩:=NInv.start (B:=B) (kd:=5) (kv:=nilS) (ks:=[]) (l:=l) hr1 hr2 (World.ownsRow_nil _ _ _ _) bel2 lab;have HN:=Lib.hid hN;have HJ:=Lib.hid hjs;have HL:=Lib.hid hl;clear bel2 hr1 hr2 hN hjs hl;go_enter Tryz.func31,Tryz.ntmps31;go_wp2_with fail;go_loopw [9] (fun i wr=>∃ (k:Nat) (lv:Value) (cs:List (Array Value)) (labr:Lab),k≤l.length∧i=.int .i64 k∧NInv 5 w lab B (w.heap.size + 1) nilS [] l k lv cs wr labr) (fun i _=>l.length - (RowKit.intOf i).toNat)
 case atStart=>exact ⟨0,nilS,[],labr,Nat.zero_le _,rfl,HN.out⟩
 case round =>
  obtain ⟨k,lv,cs,labk,hk,rfl,hI⟩:=hrel;have hk0:(0:Int)≤(k:Int):=Int.natCast_nonneg _;have hlen:l.length≤1000000:=hfit.1;by_cases hlt:k < l.length
  ·have hk1:(k:Int) < (l.length:Int):=by omega
   have hxl:xs.length=l.length:=HJ.out.len;obtain ⟨x,hx⟩:∃ x,xs[k]?=some x:=⟨_,List.getElem?_eq_getElem (by omega)⟩;obtain ⟨j,hjk⟩:∃ j,l[k]?=some j:=⟨_,List.getElem?_eq_getElem hlt⟩;obtain ⟨g,cap,e,_,_⟩:=hrw.1.form (by omega)
   cases e
   have q4:wr.drew.cell? ⟨g,k,none⟩=some x:=by
    rw [(hrw.mv hI.drew.toMv (fun h=>h)).1.cellAt k (by omega)];exact hx
   have q1:=blk_cell hI.drew.out.1 6;have hPj:Pnode j:=HL.out _ (List.mem_of_getElem? hjk);have hfj:j.fits:=(fitsL_iff l).1 hfit.2 _ (List.mem_of_getElem? hjk);have hjx:isJ B labk wr.drew j x:=isJ.mv hI.drew.toMv (fun h=>h) _ _ (isJs.get k _ _ HJ.out hjk hx);obtain ⟨i0,hi0,hz0,hz1,hz2⟩:=info_parts info26z;go_wp2_with fail
   go_region_law (first
     | (
      go_simp
      go_at_call 31
      refine (hPj B _ labk _ (Nat.le_trans hB hI.drew.below.size) hfj hjx).mono ?_
      rintro e w1 ⟨c,lab1,rfl,hc,m1⟩;obtain ⟨kk,n',f',b',s',kv',lv',rfl,hone1,hone2⟩:=hc.shape;have hI1:=hI.drew.mv m1;have hB1:=hI1.below.size;have p1:=blk_cell hI1.out.1 6;have p2:∀ o,(w1.alloc o).cell? ⟨w.heap.size + 1,6,none⟩=some lv:=fun o=>(World.cell?_alloc_lt _ _ _ (World.block_lt_of_cell? _ _ p1)).trans p1)
     | (
      refine step_append_lies _ (by rfl) _ _ _ (by rfl) w.heap.size 26 i0 _ 7 96 Tryz.underlying24 hi0 hz0 hz1 hz2 rfl (by omega) lv k (flat cs) (by rfl) (hI1.list.1.alloc _)
       ⟨w1.heap.size,0,none⟩ 1 1 [.int .i64 kk,.int .i64 n',.float .f64 f',.bool b',.string s',kv',lv'] (by rfl) (by rfl) (World.news_of_block (cs:=ndC kk n' f' b' s' kv' lv') (t:=26) (fr:=(0,0)) (heap_alloc_new w1 _)) (nd_one hone1 hone2)
       (by omega) (by simp only [maxLen];omega) (by omega) (by simp;omega) (w1.heap.size + 1) (by simp) ?_
      intro gg cap2 w2 hown2 hg2 hat2 hlt2;have hg3:=World.grownBy.trans (World.grownBy_alloc w1 (.cells (ndC kk n' f' b' s' kv' lv') 26) lv.ownBlock) hg2;have hO2:=hI1.out.mv (M:=(·=30)) (Mv.grown hg3 lab1 30 (fun x hx=>(hI1.list.own_lab x hx).1)) (by decide)
      have r1:=blk_cell hO2.1 6;have r2:=blk_free hO2.1 6))
   all_goals
    have hst:=hI1.step hjk hc hown2 hg3 (by
     rcases hat2 with e | e
     ·exact .inl e.symm
     ·exact .inr ⟨gg,rfl,by omega⟩)
    clear hO2 hI1 hI hc hown2 hg2 hg3 hat2 hlt2 p1 p2 r1 r2 q1 q4 m1 hjx hPj hfj;go_wp2;go_roundw
    case rel=>exact ⟨k + 1,_,_,_,by omega,by go_num,hst⟩
    case measure=>simp [RowKit.intOf];omega
  ·have hke:k=l.length:=by omega
   subst hke;obtain ⟨la,lcap,hlv⟩:=own_slice hI.list.1;subst hlv;have hres:=hI.res.1;have hout:=hI.out.1;have o0:=blk_cell hout 0;have o1:=blk_cell hout 1;have o2:=blk_cell hout 2;have o3:=blk_cell hout 3;have o4:=blk_cell hout 4;have o5:=blk_cell hout 5;have o6:=blk_cell hout 6;have z0:=blk_cell hres 0;have z1:=blk_cell hres 1;have z2:=blk_cell hres 2;have z3:=blk_cell hres 3;have z4:=blk_cell hres 4;have z5:=blk_cell hres 5;have z6:=blk_cell hres 6;have f0:=blk_free hres 0;have f1:=blk_free hres 1;have f2:=blk_free hres 2;have f3:=blk_free hres 3;have f4:=blk_free hres 4;have f5:=blk_free hres 5;have f6:=blk_free hres 6;have S7:=Lib.hid (set7 (.int .i64 5) (.int .i64 0) (.float .f64 0) (.bool false) (.string { data:=#[] }) nilS (.slice la l.length lcap) hres);have HI:=Lib.hid hI;clear hI hres hout;go_wp2;refine bodyPost_ret (results_cell rfl rfl S7.out.1 Tryz.underlying26 rfl info26) rfl ?_;obtain ⟨lab',m,_,r2,r3⟩:=HI.out.told hB S7.out.2;refine ⟨_,lab',rfl,?_,m⟩;simp only [isN];exact ⟨_,cs,rfl,r2,r3⟩
end
theorem node_int' (n:Int):Pnode (.int n):=by
 intro B w lab v _ _ hj;simp only [isJ] at hj;subst hj;refine (node_int n).mono ?_;rintro e w' ⟨rfl,hb⟩;exact ⟨_,lab.ext w.heap.size 30,rfl,by simp only [isN],Mv.below hb lab 30⟩
theorem node_num' (n:Nat):Pnode (.num n):=by
 intro B w lab v _ _ hj;simp only [isJ] at hj;subst hj;refine (node_num n).mono ?_;rintro e w' ⟨rfl,hb⟩;exact ⟨_,lab.ext w.heap.size 30,rfl,by simp only [isN],Mv.below hb lab 30⟩
theorem node_tr' (n:Bool):Pnode (.tr n):=by
 intro B w lab v _ _ hj;simp only [isJ] at hj;subst hj;refine (node_tr n).mono ?_;rintro e w' ⟨rfl,hb⟩;exact ⟨_,lab.ext w.heap.size 30,rfl,by simp only [isN],Mv.below hb lab 30⟩
theorem node_txt' (n:ByteArray):Pnode (.txt n):=by
 intro B w lab v _ _ hj;simp only [isJ] at hj;subst hj;refine (node_txt n).mono ?_;rintro e w' ⟨rfl,hb⟩;exact ⟨_,lab.ext w.heap.size 30,rfl,by simp only [isN],Mv.below hb lab 30⟩
mutual
theorem node_c:∀ j:JV,Pnode j
 | .int n=>node_int' n
 | .num n=>node_num' n
 | .tr n=>node_tr' n
 | .txt n=>node_txt' n
 | .arr l=>node_arr l (node_cs l)
 | .map ks l=>node_map ks l (node_cs l)
theorem node_cs:∀ l:List JV,∀ j ∈ l,Pnode j
 | [],_,h=>nomatch h
 | x :: r,j,h=>(List.mem_cons.1 h).elim (fun e=>e ▸ node_c x) (fun h=>node_cs r j h)
end
end Go.Cf
namespace Go.Cf
open Go.RowKit Go.Conc Go.Proofs
section
variable {B:Nat} {lab lab1:Lab} {w w1:World}
theorem mk106 (w:World):(Instr.makeSlice 106 (.int .i64 0) (.int .i64 10)).run Tryz.prog w=.ok (.slice (some ⟨w.heap.size,0,none⟩) 0 10) (w.alloc (.cells #[.nilFunc,.nilFunc,.nilFunc,.nilFunc,.nilFunc,.nilFunc,.nilFunc,.nilFunc,.nilFunc,.nilFunc] 107)):=by kernel_rfl
theorem mk105 (w:World):(Instr.makeChan 105 (.int .i64 10)).run Tryz.prog w=.ok (.chan (some w.heap.size)) (w.alloc (.chan 10 #[] false 0 0 false)):=by kernel_rfl
attribute [local go_sem ↓] mk106 mk105
theorem four_blocks (w:World) (o0 o1 o2 o3:Obj) :
  ((((w.alloc o0).alloc o1).alloc o2).alloc o3).drew.heap[w.heap.size]?=some o0∧((((w.alloc o0).alloc o1).alloc o2).alloc o3).drew.heap[w.heap.size + 1]?=some o1 ∧
  ((((w.alloc o0).alloc o1).alloc o2).alloc o3).drew.heap[w.heap.size + 1 + 1]?=some o2∧((((w.alloc o0).alloc o1).alloc o2).alloc o3).drew.heap[w.heap.size + 1 + 1 + 1]?=some o3 ∧
  Below w.heap.size w ((((w.alloc o0).alloc o1).alloc o2).alloc o3).drew:=by
 have s1:=World.size_alloc w o0;have s2:=World.size_alloc (w.alloc o0) o1;have s3:=World.size_alloc ((w.alloc o0).alloc o1) o2;refine ⟨?_,?_,?_,?_,?_⟩
 ·show ((((w.alloc o0).alloc o1).alloc o2).alloc o3).heap[w.heap.size]?=some o0
  rw [Below.heap_alloc _ _ _ (by omega),Below.heap_alloc _ _ _ (by omega),Below.heap_alloc _ _ _ (by omega)];exact heap_alloc_new w o0
 ·show ((((w.alloc o0).alloc o1).alloc o2).alloc o3).heap[w.heap.size + 1]?=some o1
  rw [Below.heap_alloc _ _ _ (by omega),Below.heap_alloc _ _ _ (by omega),← s1];exact heap_alloc_new (w.alloc o0) o1
 ·show ((((w.alloc o0).alloc o1).alloc o2).alloc o3).heap[w.heap.size + 1 + 1]?=some o2
  rw [Below.heap_alloc _ _ _ (by omega),← s1,← s2];exact heap_alloc_new ((w.alloc o0).alloc o1) o2
 ·show ((((w.alloc o0).alloc o1).alloc o2).alloc o3).heap[w.heap.size + 1 + 1 + 1]?=some o3
  rw [← s1,← s2,← s3];exact heap_alloc_new (((w.alloc o0).alloc o1).alloc o2) o3
 ·have h:=((((Below.refl _ w).alloc (Nat.le_refl _) o0).alloc (by omega) o1).alloc (by omega) o2).alloc (by omega) o3;exact ⟨h.os,h.tape,h.output,h.size,h.block⟩
def LX.new (s:ByteArray) (c:Nat):LX :=
 { inp:=s,start:=0,pos:=0,width:=0,line:=1,state:=some (false,60),ch:=c,q:=[],cs:=0,cr:=0,stack:=[],parts:=[],ssf:=none,lstart:=0,ilstart:=0 }
theorem fresh_lx (s:ByteArray) (lab:Lab) {w W:World} {c g1 g2 b:Nat} (hB:B≤w.heap.size) (hbel:Below w.heap.size w W) (hc:W.heap[c]?=some (.chan 10 #[] false 0 0 false))
  (h1:W.heap[g1]?=some (.cells #[.nilFunc,.nilFunc,.nilFunc,.nilFunc,.nilFunc,.nilFunc,.nilFunc,.nilFunc,.nilFunc,.nilFunc] 107 (0,0))) (h2:W.heap[g2]?=some (.cells #[] 9 (0,0)))
  (hb:W.heap[b]?=some (.cells #[.string s,i64 0,i64 0,i64 0,i64 1,fnV 60,.chan (some c),.slice (some ⟨g1,0,none⟩) 0 10,.slice (some ⟨g2,0,none⟩) 0 0,.nilFunc,i64 0,i64 0] 109 (0,0)))
  (l:w.heap.size≤c∧w.heap.size≤g1∧w.heap.size≤g2∧w.heap.size≤b):Lx B (lab.ext w.heap.size 1) W b (LX.new s c)∧Mv (fun _=>False) w lab W (lab.ext w.heap.size 1):=by
 refine ⟨⟨fnV 60,.slice (some ⟨g1,0,none⟩) 0 10,.slice (some ⟨g2,0,none⟩) 0 0,?_⟩,Mv.below hbel lab 1⟩
 exact {
  blk:=hb
  chan:=hc
  stack:=⟨rfl,.inr ⟨g1,10,_,rfl,by omega,h1,Nat.zero_le _,by unfold maxLen;omega,rfl,rfl⟩⟩
  parts:=⟨rfl,.inr ⟨g2,0,_,rfl,by omega,h2,Nat.zero_le _,by unfold maxLen;omega,rfl,rfl⟩⟩
  st:=rfl
  hb:=⟨Lab.ext_ge l.2.2.2,lt_of_block hb⟩
  hch:=⟨Lab.ext_ge l.1,lt_of_block hc⟩
  hsv:=fun k hk=>by simp only [Value.ownBlock,Option.some.injEq] at hk;subst hk;exact ⟨Lab.ext_ge l.2.1,lt_of_block h1⟩
  hpv:=fun k hk=>by simp only [Value.ownBlock,Option.some.injEq] at hk;subst hk;exact ⟨Lab.ext_ge l.2.2.1,lt_of_block h2⟩
  base:=by omega
  stv:=fun g _ n hn=>by simp [LX.new] at hn }
theorem fresh_ok (s:ByteArray) (c:Nat) (hs:s.size≤1000000) (ha:∀ i,i < s.size→byteAt s i < 128):(LX.new s c).Ok :=
 ⟨hs,Nat.zero_le _,Nat.zero_le _,Nat.zero_le _,Nat.zero_le _,Nat.zero_le _,rfl,ha⟩
set_option maxRecDepth 100000 in
set_option maxHeartbeats 4000000 in
theorem lex_c (s:ByteArray) (lab:Lab) (hB:B≤w.heap.size) :
  Calls Tryz.prog 53 #[.string s] w fun e w'=>∃ b c,e=.returned (.pointer (some ⟨b,0,none⟩))∧Lx B (lab.ext w.heap.size 1) w' b (LX.new s c)∧Mv (fun _=>False) w lab w' (lab.ext w.heap.size 1):=by
 go_enter Tryz.func53,Tryz.ntmps53;go_wp2_with fail;go_region
 all_goals first
  | (
   obtain ⟨h0,h1,h2,h3,hb⟩:=four_blocks w (Obj.chan 10 #[] false 0 0 false) (Obj.cells #[.nilFunc,.nilFunc,.nilFunc,.nilFunc,.nilFunc,.nilFunc,.nilFunc,.nilFunc,.nilFunc,.nilFunc] 107) (Obj.cells #[] 9) (Obj.cells #[.string s,i64 0,i64 0,i64 0,i64 1,fnV 60,.chan (some (w.heap.size)),.slice (some ⟨w.heap.size + 1,0,none⟩) 0 10,.slice (some ⟨w.heap.size + 1 + 1,0,none⟩) 0 0,.nilFunc,i64 0,i64 0] 109);have K:=fresh_lx s lab hB hb h0 h1 h2 h3 (by omega);clear h0 h1 h2 h3 hb;go_wp2;go_ret
   exact ⟨_,_,rfl,K⟩)
  | (
   obtain ⟨h0,h1,h2,h3,hb⟩:=four_blocks w (Obj.chan 10 #[] false 0 0 false) (Obj.cells #[] 9) (Obj.cells #[.nilFunc,.nilFunc,.nilFunc,.nilFunc,.nilFunc,.nilFunc,.nilFunc,.nilFunc,.nilFunc,.nilFunc] 107) (Obj.cells #[.string s,i64 0,i64 0,i64 0,i64 1,fnV 60,.chan (some (w.heap.size)),.slice (some ⟨w.heap.size + 1 + 1,0,none⟩) 0 10,.slice (some ⟨w.heap.size + 1,0,none⟩) 0 0,.nilFunc,i64 0,i64 0] 109);have K:=fresh_lx s lab hB hb h0 h2 h1 h3 (by omega);clear h0 h1 h2 h3 hb;go_wp2;go_ret
   exact ⟨_,_,rfl,K⟩)
  | (
   obtain ⟨h0,h1,h2,h3,hb⟩:=four_blocks w (Obj.cells #[.nilFunc,.nilFunc,.nilFunc,.nilFunc,.nilFunc,.nilFunc,.nilFunc,.nilFunc,.nilFunc,.nilFunc] 107) (Obj.chan 10 #[] false 0 0 false) (Obj.cells #[] 9) (Obj.cells #[.string s,i64 0,i64 0,i64 0,i64 1,fnV 60,.chan (some (w.heap.size + 1)),.slice (some ⟨w.heap.size,0,none⟩) 0 10,.slice (some ⟨w.heap.size + 1 + 1,0,none⟩) 0 0,.nilFunc,i64 0,i64 0] 109);have K:=fresh_lx s lab hB hb h1 h0 h2 h3 (by omega);clear h0 h1 h2 h3 hb;go_wp2;go_ret
   exact ⟨_,_,rfl,K⟩)
  | (
   obtain ⟨h0,h1,h2,h3,hb⟩:=four_blocks w (Obj.cells #[.nilFunc,.nilFunc,.nilFunc,.nilFunc,.nilFunc,.nilFunc,.nilFunc,.nilFunc,.nilFunc,.nilFunc] 107) (Obj.cells #[] 9) (Obj.chan 10 #[] false 0 0 false) (Obj.cells #[.string s,i64 0,i64 0,i64 0,i64 1,fnV 60,.chan (some (w.heap.size + 1 + 1)),.slice (some ⟨w.heap.size,0,none⟩) 0 10,.slice (some ⟨w.heap.size + 1,0,none⟩) 0 0,.nilFunc,i64 0,i64 0] 109);have K:=fresh_lx s lab hB hb h2 h0 h1 h3 (by omega);clear h0 h1 h2 h3 hb;go_wp2;go_ret
   exact ⟨_,_,rfl,K⟩)
  | (
   obtain ⟨h0,h1,h2,h3,hb⟩:=four_blocks w (Obj.cells #[] 9) (Obj.chan 10 #[] false 0 0 false) (Obj.cells #[.nilFunc,.nilFunc,.nilFunc,.nilFunc,.nilFunc,.nilFunc,.nilFunc,.nilFunc,.nilFunc,.nilFunc] 107) (Obj.cells #[.string s,i64 0,i64 0,i64 0,i64 1,fnV 60,.chan (some (w.heap.size + 1)),.slice (some ⟨w.heap.size + 1 + 1,0,none⟩) 0 10,.slice (some ⟨w.heap.size,0,none⟩) 0 0,.nilFunc,i64 0,i64 0] 109);have K:=fresh_lx s lab hB hb h1 h2 h0 h3 (by omega);clear h0 h1 h2 h3 hb;go_wp2;go_ret
   exact ⟨_,_,rfl,K⟩)
  | (
   obtain ⟨h0,h1,h2,h3,hb⟩:=four_blocks w (Obj.cells #[] 9) (Obj.cells #[.nilFunc,.nilFunc,.nilFunc,.nilFunc,.nilFunc,.nilFunc,.nilFunc,.nilFunc,.nilFunc,.nilFunc] 107) (Obj.chan 10 #[] false 0 0 false) (Obj.cells #[.string s,i64 0,i64 0,i64 0,i64 1,fnV 60,.chan (some (w.heap.size + 1 + 1)),.slice (some ⟨w.heap.size + 1,0,none⟩) 0 10,.slice (some ⟨w.heap.size,0,none⟩) 0 0,.nilFunc,i64 0,i64 0] 109);have K:=fresh_lx s lab hB hb h2 h1 h0 h3 (by omega);clear h0 h1 h2 h3 hb;go_wp2;go_ret
   exact ⟨_,_,rfl,K⟩)
end
end Go.Cf
namespace Go.Cf
section
variable {P:Program} {ops:Array Oper} {Q:Exit→Act→World→Prop} {md:Region.Mode}
theorem any_listed {l:Array Bool} {i:Nat} (hi:i < l.size):l.getD i true=l.getD i false:=by
 simp [Array.getD,hi]
theorem all_of_ready (hdep:∀ i o,ops[i]?=some o→∀ e ∈ o.after,Region.binds md e=true→e.on < i) {l:Array Bool} (hs:l.size=ops.size) (hr:Region.ready md ops l=[]):∀ i,i < ops.size→l.getD i false=true:=by
 intro i
 induction i using Nat.strongRecOn with
 | _ i ih =>
  intro hi
  cases hc:l.getD i false with
  | true=>rfl
  | false =>
   have hm:i ∈ Region.ready md ops l:=by
    rw [mem_ready];refine ⟨by rw [any_listed (by omega)];exact hc,ops[i],by simp [hi],fun e he hb=>?_⟩;have:=hdep i ops[i] (by simp [hi]) e he hb;exact ih e.on this (by omega)
   rw [hr] at hm;cases hm
theorem count_set {l:Array Bool} {i:Nat} (hi:i < l.size) (hf:l.getD i true=false):(l.setIfInBounds i true).toList.countP (fun b=>!b) + 1=l.toList.countP (fun b=>!b):=by
 have hi':i < l.toList.length:=by simpa using hi
 have hv:l.toList[i]=false:=by
  have:l.getD i true=l[i]:=by simp [Array.getD,hi]
  rw [this] at hf;simpa using hf
 have hpos:0 < l.toList.countP (fun b=>!b):=by
  rw [List.countP_pos_iff];exact ⟨l.toList[i],List.getElem_mem hi',by rw [hv];rfl⟩
 rw [Array.toList_setIfInBounds,List.countP_set hi',hv];simp only [Bool.not_true,Bool.not_false,if_true,Bool.false_eq_true,if_false];omega
theorem wpAny_inv (I:Array Bool→Act→World→Prop) (hdep:∀ i o,ops[i]?=some o→∀ e ∈ o.after,Region.binds md e=true→e.on < i)
  (hstep:∀ l a w i o,l.size=ops.size→ops[i]?=some o→l.getD i true=false→(∀ e ∈ o.after,Region.binds md e=true→l.getD e.on false=true)→I l a w→wpOp P ops Q i (I (l.setIfInBounds i true)) a w)
  (hend:∀ l a w,l.size=ops.size→(∀ i,i < ops.size→l.getD i false=true)→I l a w→Q .normal a w) :
  ∀ (fuel:Nat) (l:Array Bool) (a:Act) (w:World),l.size=ops.size→l.toList.countP (fun b=>!b)≤fuel→I l a w→wpAny P md ops Q fuel l a w
 | 0,l,a,w,hs,hc,hI=>by
  have hall:∀ i,i < ops.size→l.getD i true=true:=by
   intro i hi
   cases h:l.getD i true with
   | true=>rfl
   | false=>have:=count_set (by omega) h;omega
  have hr:Region.ready md ops l=[]:=by
   rw [List.eq_nil_iff_forall_not_mem];intro i hi;obtain ⟨h0,o,ho,_⟩:=mem_ready.1 hi;have:=hall i (Array.getElem?_eq_some_iff.1 ho).1;rw [h0] at this;cases this
  exact ⟨hr,hend l a w hs (fun i hi=>by rw [← any_listed (by omega)];exact hall i hi) hI⟩
 | fuel + 1,l,a,w,hs,hc,hI=>by
  refine ⟨fun hr=>hend l a w hs (all_of_ready hdep hs hr) hI,fun i hi=>?_⟩;obtain ⟨h0,o,ho,hall⟩:=mem_ready.1 hi;have hlt:i < l.size:=by rw [hs];exact (Array.getElem?_eq_some_iff.1 ho).1
  have hcs:=count_set hlt h0;refine wpOp_mono (fun a' w' h=>?_) (hstep l a w i o hs ho h0 hall hI);exact wpAny_inv I hdep hstep hend fuel _ a' w' (by simpa using hs) (by omega) h
theorem wp_region_inv {id:Nat} {l:List Oper} {a:Act} {w:World} (I:Array Bool→Act→World→Prop) (hm:P.follows .mixedOrders=true)
  (hdep:(List.range l.length).all (fun i=>((l[i]?).map fun o=>o.after.all fun e=>!Region.binds .any e || decide (e.on < i)).getD true)=true)
  (h0:I (Array.replicate l.length false) a { w with drawn:=w.drawn + 1 })
  (hstep:∀ L a w i o,L.size=l.length→l[i]?=some o→L.getD i true=false→(∀ e ∈ o.after,Region.binds .any e=true→L.getD e.on false=true)→I L a w→wpOp P l.toArray Q i (I (L.setIfInBounds i true)) a w)
  (hend:∀ L a w,L.size=l.length→(∀ i,i < l.length→L.getD i false=true)→I L a w→Q .normal a w):(Code.region id l.toArray true).wp P Q a w:=by
 refine wp_region_any hm ?_;refine wpAny_inv (ops:=l.toArray) (md:=.any) I ?_ ?_ ?_ _ _ _ _ (by simp) ?_ (by simpa using h0)
 ·intro i o ho e he hb;have hi:i < l.length:=by simpa using (Array.getElem?_eq_some_iff.1 ho).1
  have h1:=List.all_eq_true.1 hdep i (List.mem_range.2 hi);have ho':l[i]?=some o:=by simpa using ho
  rw [ho'] at h1;simp only [Option.map_some,Option.getD_some,Array.all_eq_true_iff_forall_mem] at h1;have h2:=h1 e he;rw [hb] at h2;simpa using h2
 ·intro L a w i o hs ho hf hall hI;exact hstep L a w i o (by simpa using hs) (by simpa using ho) hf hall hI
 ·intro L a w hs hall hI;exact hend L a w (by simpa using hs) (fun i hi=>hall i (by simpa using hi)) hI
 ·have:=List.countP_le_length (p:=fun b=>!b) (l:=(Array.replicate l.toArray.size false).toList);simpa using this
end
end Go.Cf
namespace Go.Cf
section
variable {P:Program} {Q:Exit→Act→World→Prop}
structure BldAt (C:Nat→Value→Lab→World→Prop) (dst:Nat→Nat) (keep:List (Nat × Value)) (n:Nat) (w0:World) (lab0:Lab) (len:Nat) (L:Array Bool) (a:Act) (lab:Lab) (w:World):Prop where
 defers:a.defers=[]
 size:a.tmps.size=n
 keep:∀ p ∈ keep,a.tmps.getD p.1 undef=p.2
 mv:Mv (fun _=>False) w0 lab0 w lab
 got:∀ k,k < len→L.getD k false=true→C k (a.tmps.getD (dst k) undef) lab w
def Does (P:Program) (o:Oper) (a:Act) (lab:Lab) (w:World) (R:Value→Lab→World→Prop):Prop :=
 (∃ v w' lab',(execOp a.eval o).run P w=.ok (.value v) w'∧Mv (fun _=>False) w lab w' lab'∧R v lab' w') ∨
 (∃ f args,(execOp a.eval o).run P w=.ok (.enter f args) w∧Calls P f args w fun e w'=>∃ v lab',e=.returned v∧Mv (fun _=>False) w lab w' lab'∧R v lab' w')
theorem put_getD {a:Act} {d k:Nat} {v:Value} (hd:d < a.tmps.size):(a.put (some d) v).tmps.getD k undef=if k=d then v else a.tmps.getD k undef:=by
 simp only [Act.put,gdg];by_cases h:k=d
 ·subst h;simp [hd]
 ·rw [Array.getElem?_setIfInBounds_ne (fun e=>h e.symm),if_neg h]
theorem wp_region_bld {id:Nat} {l:List Oper} {a:Act} {w:World} (C:Nat→Value→Lab→World→Prop) (dst:Nat→Nat) (keep:List (Nat × Value)) (lab:Lab) (hm:P.follows .mixedOrders=true)
  (hdep:(List.range l.length).all (fun i=>((l[i]?).map fun o=>o.after.all fun e=>!Region.binds .any e || decide (e.on < i)).getD true)=true)
  (hdst:∀ i o,l[i]?=some o→o.dst=some (dst i)∧o.guard=none∧dst i < a.tmps.size∧(∀ p ∈ keep,p.1 ≠ dst i)∧∀ k,k < l.length→dst k=dst i→k=i)
  (hd0:a.defers=[]) (hkeep:∀ p ∈ keep,a.tmps.getD p.1 undef=p.2)
  (hC:∀ k v lab w lab' w',C k v lab w→Mv (fun _=>False) w lab w' lab'→C k v lab' w')
  (hstep:∀ L a' lab' w' i o,l[i]?=some o→(∀ e ∈ o.after,Region.binds .any e=true→L.getD e.on false=true)→BldAt C dst keep a.tmps.size w lab l.length L a' lab' w'→Does P o a' lab' w' (C i))
  (hend:∀ a' lab' w',(∀ k,k < l.length→C k (a'.tmps.getD (dst k) undef) lab' w')→a'.defers=[]→Mv (fun _=>False) w lab w' lab'→Q .normal a' w'):(Code.region id l.toArray true).wp P Q a w:=by
 refine wp_region_inv (fun L a' w'=>∃ lab',BldAt C dst keep a.tmps.size w lab l.length L a' lab' w') hm hdep ?_ ?_ ?_
 ·refine ⟨lab,hd0,rfl,hkeep,⟨rfl,rfl,rfl,Nat.le_refl _,fun _ _ _=>rfl,fun _ _ _=>rfl⟩,fun k hk h=>?_⟩;simp [Array.getD] at h
 ·rintro L a' w' i o hL ho hf hall ⟨lab',hb⟩;have hs:=hstep L a' lab' w' i o ho hall hb;obtain ⟨h1,h2,h3,h4,h5⟩:=hdst i o ho;have hi:i < l.length:=(List.getElem?_eq_some_iff.1 ho).1;have key:∀ v lab2 w2,Mv (fun _=>False) w' lab' w2 lab2→C i v lab2 w2→∃ lab3,BldAt C dst keep a.tmps.size w lab l.length (L.setIfInBounds i true) (a'.put o.dst v) lab3 w2:=by
   intro v lab2 w2 m hc;rw [h1];have hsz:dst i < a'.tmps.size:=by rw [hb.size];exact h3
   refine ⟨lab2,hb.defers,by simpa [Act.put] using hb.size,fun p hp=>?_,hb.mv.trans m (fun _ h=>h),fun k hk hlk=>?_⟩
   ·rw [put_getD hsz,if_neg (h4 p hp)];exact hb.keep p hp
   ·rw [put_getD hsz];by_cases hki:k=i
    ·subst hki;rw [if_pos rfl];exact hc
    ·rw [if_neg (fun e=>hki (h5 k hk e))];refine hC k _ _ _ _ _ (hb.got k hk ?_) m;rw [gdg,Array.getElem?_setIfInBounds_ne (fun e=>hki e.symm),← gdg] at hlk;exact hlk
  have hw:Region.wanted o (yielded l.toArray a'.tmps)=true:=by simp [Region.wanted,h2]
  unfold wpOp;simp only [List.getElem?_toArray,ho,hw,if_true]
  left
  unfold Oper.wp;rcases hs with ⟨v,w2,lab2,hrun,m,hc⟩ | ⟨f,args,hrun,hcalls⟩
  ·rw [hrun];exact key v lab2 w2 m hc
  ·rw [hrun,Oper.upon_enter];refine hcalls.mono ?_;rintro e w2 ⟨v,lab2,rfl,m,hc⟩;exact key v lab2 w2 m hc
 ·rintro L a' w' hL hall ⟨lab',hb⟩;exact hend a' lab' w' (fun k hk=>hb.got k hk (hall k hk)) hb.defers hb.mv
end
end Go.Cf
namespace Go.Cf
open Go.RowKit Go.Conc Go.Proofs
section
variable {B:Nat} {lab lab1:Lab} {w w1:World}
theorem mk61 (w:World):(Instr.makeMap 61 none).run Tryz.prog w=.ok (.map (some w.heap.size)) (w.alloc (.map #[] 0)):=by kernel_rfl
theorem mk77 (w:World):(Instr.makeMap 77 none).run Tryz.prog w=.ok (.map (some w.heap.size)) (w.alloc (.map #[] 0)):=by kernel_rfl
theorem mk75 (w:World):(Instr.makeSlice 75 (.int .i64 0) (.int .i64 4)).run Tryz.prog w=.ok (.slice (some ⟨w.heap.size,0,none⟩) 0 4) (w.alloc (.cells #[.nilIface,.nilIface,.nilIface,.nilIface] 20)):=by kernel_rfl
theorem mk23 (w:World):(Instr.makeSlice 23 (.int .i64 0) (.int .i64 4)).run Tryz.prog w=.ok (.slice (some ⟨w.heap.size,0,none⟩) 0 4) (w.alloc (.cells #[.string { data:=#[] },.string { data:=#[] },.string { data:=#[] },.string { data:=#[] }] 9)):=by kernel_rfl
theorem mk76 (w:World):(Instr.makeSlice 76 (.int .i64 0) (.int .i64 4)).run Tryz.prog w=.ok (.slice (some ⟨w.heap.size,0,none⟩) 0 4) (w.alloc (.cells #[i64 0,.string { data:=#[] },i64 0,i64 0,i64 0,.string { data:=#[] },i64 0,i64 0,i64 0,.string { data:=#[] },i64 0,i64 0,i64 0,.string { data:=#[] },i64 0,i64 0] 98)):=by kernel_rfl
def NewP (B:Nat) (lab:Lab) (w:World) (K:PK) (s:ByteArray) (c:Nat):Prop :=
 PAt B lab w K ⟨LX.new s c,[],[]⟩∧Mp 10 lab w K.mp []∧Mp 8 lab w K.ev []∧Rw B 5 lab w 98 4 K.iv 0 []
def CP (B:Nat) (s:ByteArray) (ped:Bool):Nat→Value→Lab→World→Prop
 | 0,v,lab,w=>∃ m,v=.map (some m)∧Mp 10 lab w m []
 | 1,v,_,_=>v=.string s
 | 2,v,lab,w=>∃ b c,v=.pointer (some ⟨b,0,none⟩)∧Lx B lab w b (LX.new s c)
 | 3,v,lab,w=>∃ g,v=.slice (some ⟨g,0,none⟩) 0 4∧Rw B 3 lab w 20 1 v 0 []
 | 4,v,lab,w=>∃ g,v=.slice (some ⟨g,0,none⟩) 0 4∧Rw B 4 lab w 9 1 v 0 []
 | 5,v,lab,w=>∃ g,v=.slice (some ⟨g,0,none⟩) 0 4∧Rw B 5 lab w 98 4 v 0 []
 | 6,v,_,_=>v=.string { data:=#[] }
 | 7,v,_,_=>v=.bool ped
 | 8,v,lab,w=>∃ m,v=.map (some m)∧Mp 8 lab w m []
 | 9,v,lab,w=>∃ (K:PK) (c g3 g4:Nat),K.ped=ped∧v=.agg (K.cells .nilIface (.slice (some ⟨g3,0,none⟩) 0 4) (.slice (some ⟨g4,0,none⟩) 0 4))∧Lx B lab w K.b (LX.new s c)∧Rw B 3 lab w 20 1 (.slice (some ⟨g3,0,none⟩) 0 4) 0 []∧Rw B 4 lab w 9 1 (.slice (some ⟨g4,0,none⟩) 0 4) 0 [] ∧
   Mp 10 lab w K.mp []∧Mp 8 lab w K.ev []∧Rw B 5 lab w 98 4 K.iv 0 []
 | 10,v,lab,w=>∃ (K:PK) (c:Nat),K.ped=ped∧v=.pointer (some ⟨K.p,0,none⟩)∧NewP B lab w K s c
 | 11,v,lab,w=>∃ (K:PK) (c:Nat),K.ped=ped∧v=.pointer (some ⟨K.p,0,none⟩)∧NewP B lab w K s c
 | _,_,_,_=>False
def dstP (k:Nat):Nat:=if k=11 then 6 else 7 + k
theorem dstP_inj {i k:Nat} (h:dstP k=dstP i):k=i:=by
 unfold dstP at h
 split at h <;> split at h <;> omega
theorem NewP.mv {K:PK} {s:ByteArray} {c:Nat} (h:NewP B lab w K s c) (m:Mv (fun _=>False) w lab w1 lab1):NewP B lab1 w1 K s c :=
 ⟨h.1.mv m (fun _ _ h=>h),h.2.1.mv m (fun h=>h),h.2.2.1.mv m (fun h=>h),h.2.2.2.mv m (fun h=>h)⟩
theorem CP.mv {s:ByteArray} {ped:Bool} (k:Nat) (v:Value) (lab:Lab) (w:World) (lab':Lab) (w':World) (h:CP B s ped k v lab w) (m:Mv (fun _=>False) w lab w' lab'):CP B s ped k v lab' w':=by
 match k,h with
 | 0,⟨b,h1,h2⟩=>exact ⟨b,h1,h2.mv m (fun h=>h)⟩
 | 1,h=>exact h
 | 2,⟨b,c,h1,h2⟩=>exact ⟨b,c,h1,h2.mv m (fun h=>h)⟩
 | 3,⟨g,h1,h2⟩=>exact ⟨g,h1,h2.mv m (fun h=>h)⟩
 | 4,⟨g,h1,h2⟩=>exact ⟨g,h1,h2.mv m (fun h=>h)⟩
 | 5,⟨g,h1,h2⟩=>exact ⟨g,h1,h2.mv m (fun h=>h)⟩
 | 6,h=>exact h
 | 7,h=>exact h
 | 8,⟨b,h1,h2⟩=>exact ⟨b,h1,h2.mv m (fun h=>h)⟩
 | 9,⟨K,c,g3,g4,h0,h1,h2,h3,h4,h5,h6,h7⟩=>exact ⟨K,c,g3,g4,h0,h1,h2.mv m (fun h=>h),h3.mv m (fun h=>h),h4.mv m (fun h=>h),h5.mv m (fun h=>h),h6.mv m (fun h=>h),h7.mv m (fun h=>h)⟩
 | 10,⟨K,c,h0,h1,h2⟩=>exact ⟨K,c,h0,h1,h2.mv m⟩
 | 11,⟨K,c,h0,h1,h2⟩=>exact ⟨K,c,h0,h1,h2.mv m⟩
theorem map_new (w:World) (lab:Lab) (ℓ:Nat):Mp ℓ (lab.ext w.heap.size ℓ) (w.alloc (.map #[] 0)) w.heap.size []:=⟨World.ownsMap_made w _ _ _,Lab.ext_ge (Nat.le_refl _)⟩
theorem row_new (w:World) (lab:Lab) (ℓ e size cap:Nat) (cs:Array Value) (hB:B≤w.heap.size) (hc:cap≤maxLen) (hs:cs.size=cap * size):Rw B ℓ (lab.ext w.heap.size ℓ) (w.alloc (.cells cs e)) e size (.slice (some ⟨w.heap.size,0,none⟩) 0 cap) 0 []:=by
 refine ⟨⟨by simp,.inr ⟨_,_,_,rfl,hB,heap_alloc_new w _,Nat.zero_le _,hc,hs,by simp⟩⟩,fun k hk=>?_⟩;simp only [Value.ownBlock,Option.some.injEq] at hk;subst hk;exact Lab.ext_ge (Nat.le_refl _)
set_option maxRecDepth 100000 in
set_option maxHeartbeats 4000000 in
theorem newParser_c (s:ByteArray) (ped:Bool) (hB:B≤w.heap.size) :
  Calls Tryz.prog 47 #[.string s,.string { data:=#[] },.bool ped] w fun e w'=>∃ K c lab',K.ped=ped∧e=.returned (.pointer (some ⟨K.p,0,none⟩))∧NewP B lab' w' K s c∧Mv (fun _=>False) w lab w' lab':=by
 go_enter Tryz.func47,Tryz.ntmps47;go_wp2_with fail;refine wp_region_bld (CP B s ped) dstP [(0,.string s),(1,.string { data:=#[] }),(2,.bool ped)] lab mixed (by kernel_rfl) ?_ rfl ?_ CP.mv ?_ ?_
 ·intro i o ho;have hk:∀ p ∈ [(0,Value.string s),(1,Value.string { data:=#[] }),(2,Value.bool ped)],p.1≤2:=by
   intro p hp;simp only [List.mem_cons,List.not_mem_nil,or_false] at hp;rcases hp with rfl | rfl | rfl <;> simp
  match i,ho with
  | 0,rfl=>exact ⟨rfl,rfl,(show dstP 0 < 18 by decide),fun p hp=>by have:=hk p hp;unfold dstP;split <;> omega,fun k _ h=>dstP_inj h⟩
  | 1,rfl=>exact ⟨rfl,rfl,(show dstP 1 < 18 by decide),fun p hp=>by have:=hk p hp;unfold dstP;split <;> omega,fun k _ h=>dstP_inj h⟩
  | 2,rfl=>exact ⟨rfl,rfl,(show dstP 2 < 18 by decide),fun p hp=>by have:=hk p hp;unfold dstP;split <;> omega,fun k _ h=>dstP_inj h⟩
  | 3,rfl=>exact ⟨rfl,rfl,(show dstP 3 < 18 by decide),fun p hp=>by have:=hk p hp;unfold dstP;split <;> omega,fun k _ h=>dstP_inj h⟩
  | 4,rfl=>exact ⟨rfl,rfl,(show dstP 4 < 18 by decide),fun p hp=>by have:=hk p hp;unfold dstP;split <;> omega,fun k _ h=>dstP_inj h⟩
  | 5,rfl=>exact ⟨rfl,rfl,(show dstP 5 < 18 by decide),fun p hp=>by have:=hk p hp;unfold dstP;split <;> omega,fun k _ h=>dstP_inj h⟩
  | 6,rfl=>exact ⟨rfl,rfl,(show dstP 6 < 18 by decide),fun p hp=>by have:=hk p hp;unfold dstP;split <;> omega,fun k _ h=>dstP_inj h⟩
  | 7,rfl=>exact ⟨rfl,rfl,(show dstP 7 < 18 by decide),fun p hp=>by have:=hk p hp;unfold dstP;split <;> omega,fun k _ h=>dstP_inj h⟩
  | 8,rfl=>exact ⟨rfl,rfl,(show dstP 8 < 18 by decide),fun p hp=>by have:=hk p hp;unfold dstP;split <;> omega,fun k _ h=>dstP_inj h⟩
  | 9,rfl=>exact ⟨rfl,rfl,(show dstP 9 < 18 by decide),fun p hp=>by have:=hk p hp;unfold dstP;split <;> omega,fun k _ h=>dstP_inj h⟩
  | 10,rfl=>exact ⟨rfl,rfl,(show dstP 10 < 18 by decide),fun p hp=>by have:=hk p hp;unfold dstP;split <;> omega,fun k _ h=>dstP_inj h⟩
  | 11,rfl=>exact ⟨rfl,rfl,(show dstP 11 < 18 by decide),fun p hp=>by have:=hk p hp;unfold dstP;split <;> omega,fun k _ h=>dstP_inj h⟩
 ·intro p hp;simp only [List.mem_cons,List.not_mem_nil,or_false] at hp;rcases hp with rfl | rfl | rfl <;> rfl
 ·intro L a' lab' w' i o ho hall hb;have hB':B≤w'.heap.size:=Nat.le_trans hB hb.mv.size;have k0:a'.tmps.getD 0 undef=.string s:=hb.keep (0,.string s) (by simp);have k1:a'.tmps.getD 1 undef=.string { data:=#[] }:=hb.keep (1,.string { data:=#[] }) (by simp);have k2:a'.tmps.getD 2 undef=.bool ped:=hb.keep (2,.bool ped) (by simp)
  match i,ho with
  | 0,rfl=>exact .inl ⟨_,_,lab'.ext w'.heap.size 10,by simp [execOp,mk61],Mv.alloc _ _ _ _,_,rfl,map_new _ _ _⟩
  | 1,rfl=>exact .inl ⟨_,_,lab',rfl,Mv.refl _ _ _,k0⟩
  | 2,rfl =>
   have h1:a'.tmps.getD 8 undef=.string s:=hb.got 1 (by decide) (hall ⟨1,.data⟩ (by simp) rfl);refine .inr ⟨53,#[a'.tmps.getD 8 undef],by kernel_rfl,?_⟩;rw [h1];refine (lex_c s lab' hB').mono ?_;rintro e w2 ⟨b,c,rfl,hl,m⟩;exact ⟨_,_,rfl,m,b,c,rfl,hl⟩
  | 3,rfl=>exact .inl ⟨_,w'.alloc (.cells #[.nilIface,.nilIface,.nilIface,.nilIface] 20),lab'.ext w'.heap.size 3,by simp [execOp,mk75,Act.eval],Mv.alloc _ _ _ _,_,rfl,row_new _ _ _ _ _ _ _ hB' (by unfold maxLen;omega) rfl⟩
  | 4,rfl=>exact .inl ⟨_,w'.alloc (.cells #[.string { data:=#[] },.string { data:=#[] },.string { data:=#[] },.string { data:=#[] }] 9),lab'.ext w'.heap.size 4,by simp [execOp,mk23,Act.eval],Mv.alloc _ _ _ _,_,rfl,row_new _ _ _ _ _ _ _ hB' (by unfold maxLen;omega) rfl⟩
  | 5,rfl=>exact .inl ⟨_,w'.alloc (.cells #[i64 0,.string { data:=#[] },i64 0,i64 0,i64 0,.string { data:=#[] },i64 0,i64 0,i64 0,.string { data:=#[] },i64 0,i64 0,i64 0,.string { data:=#[] },i64 0,i64 0] 98),lab'.ext w'.heap.size 5,by simp [execOp,mk76,Act.eval],Mv.alloc _ _ _ _,_,rfl,row_new _ _ _ _ _ _ _ hB' (by unfold maxLen;omega) rfl⟩
  | 6,rfl=>exact .inl ⟨_,_,lab',rfl,Mv.refl _ _ _,k1⟩
  | 7,rfl=>exact .inl ⟨_,_,lab',rfl,Mv.refl _ _ _,k2⟩
  | 8,rfl=>exact .inl ⟨_,_,lab'.ext w'.heap.size 8,by simp [execOp,mk77],Mv.alloc _ _ _ _,_,rfl,map_new _ _ _⟩
  | 9,rfl =>
   obtain ⟨m0,e0,r0⟩:=hb.got 0 (by decide) (hall ⟨0,.data⟩ (by simp) rfl);obtain ⟨b,c,e2,r2⟩:=hb.got 2 (by decide) (hall ⟨2,.data⟩ (by simp) rfl);obtain ⟨g3,e3,r3⟩:=hb.got 3 (by decide) (hall ⟨3,.data⟩ (by simp) rfl);obtain ⟨g4,e4,r4⟩:=hb.got 4 (by decide) (hall ⟨4,.data⟩ (by simp) rfl);obtain ⟨g5,e5,r5⟩:=hb.got 5 (by decide) (hall ⟨5,.data⟩ (by simp) rfl);have e6:=hb.got 6 (by decide) (hall ⟨6,.data⟩ (by simp) rfl);have e7:=hb.got 7 (by decide) (hall ⟨7,.data⟩ (by simp) rfl);obtain ⟨m8,e8,r8⟩:=hb.got 8 (by decide) (hall ⟨8,.data⟩ (by simp) rfl);change a'.tmps.getD 7 undef=_ at e0;change a'.tmps.getD 9 undef=_ at e2;change a'.tmps.getD 10 undef=_ at e3;change a'.tmps.getD 11 undef=_ at e4;change a'.tmps.getD 12 undef=_ at e5;change a'.tmps.getD 13 undef=_ at e6;change a'.tmps.getD 14 undef=_ at e7;change a'.tmps.getD 15 undef=_ at e8;rw [show a'.tmps.getD (dstP 3) undef=_ from e3] at r3;rw [show a'.tmps.getD (dstP 4) undef=_ from e4] at r4;rw [show a'.tmps.getD (dstP 5) undef=_ from e5] at r5;refine .inl ⟨.agg (PK.cells ⟨0,b,m0,.slice (some ⟨g5,0,none⟩) 0 4,m8,ped⟩ .nilIface (.slice (some ⟨g3,0,none⟩) 0 4) (.slice (some ⟨g4,0,none⟩) 0 4)),w',lab',?_,Mv.refl _ _ _,⟨0,b,m0,.slice (some ⟨g5,0,none⟩) 0 4,m8,ped⟩,c,g3,g4,rfl,rfl,r2,r3,r4,r0,r8,r5⟩;rw [gdg] at e0 e2 e3 e4 e5 e6 e7 e8;simp [execOp,Act.eval,go_sem,e0,e2,e3,e4,e5,e6,e7,e8,PK.cells]
  | 10,rfl =>
   obtain ⟨K,c,g3,g4,h0,h1,h2,h3,h4,h5,h6,h7⟩:=hb.got 9 (by decide) (hall ⟨9,.data⟩ (by simp) rfl);change a'.tmps.getD 16 undef=_ at h1;have ma:Mv (fun _=>False) w' lab' (w'.alloc (.cells (K.cells .nilIface (.slice (some ⟨g3,0,none⟩) 0 4) (.slice (some ⟨g4,0,none⟩) 0 4)) 79)) (lab'.ext w'.heap.size 2):=Mv.alloc _ _ _ _;refine .inl ⟨.pointer (some ⟨w'.heap.size,0,none⟩),w'.alloc (.cells (K.cells .nilIface (.slice (some ⟨g3,0,none⟩) 0 4) (.slice (some ⟨g4,0,none⟩) 0 4)) 79),lab'.ext w'.heap.size 2,?_,ma,{ K with p:=w'.heap.size },c,h0,rfl,⟨.nilIface,.slice (some ⟨g3,0,none⟩) 0 4,.slice (some ⟨g4,0,none⟩) 0 4,[],?_⟩,h5.mv ma (fun h=>h),h6.mv ma (fun h=>h),h7.mv ma (fun h=>h)⟩
   ·rw [gdg] at h1;simp [execOp,Act.eval,go_sem,h1,PK.cells]
   ·exact {
     cl:=Cl.alloc _ _ _ _ _
     lx:=h2.mv ma (fun h=>h)
     cv:=h3.mv ma (fun h=>h)
     kv:=h4.mv ma (fun h=>h)
     cs:=trivial
     top:=.inr rfl
     root:=fun v hv=>by simp at hv }
  | 11,rfl =>
   have:=hb.got 10 (by decide) (hall ⟨10,.data⟩ (by simp) rfl);exact .inl ⟨_,_,lab',rfl,Mv.refl _ _ _,this⟩
 ·intro a' lab' w' hall hd m;obtain ⟨K,c,h0,h1,h2⟩:=hall 11 (by decide)
  rename_i hK
  refine hK a' w' (wp_ret (bodyPost_ret (results_tmp rfl _ _ _) hd ⟨K,c,lab',h0,?_,h2,m⟩));rw [show a'.tmps.getD 6 undef=_ from h1]
end
section
variable {B:Nat} {lab lab1:Lab} {w w1:World} {K:PK} {X X':PX}
theorem PAtX.withLx {top cv kv:Value} {vs:List Value} {L':LX} (h:PAtX B lab w K X top cv kv vs) (hl:Lx B lab1 w1 K.b L') (m:Mv (·=1) w lab w1 lab1):PAt B lab1 w1 K { X with L:=L' } :=
 ⟨top,cv,kv,vs,h.cl.mv m (by decide),hl,h.cv.mv m (by decide),h.kv.mv m (by decide),h.cs.mv m (by decide) (fun i _=>by omega),h.top,h.root⟩
set_option maxRecDepth 100000 in
set_option maxHeartbeats 1000000 in
theorem next_item_c {n:Nat} {x:It} {q:List It} {L':LX} (h:PAt B lab w K X) (R:Run n X.L L') (hx:L'.q=x :: q) :
  Calls Tryz.prog 55 #[.pointer (some ⟨K.p,0,none⟩)] w fun e w'=>e=.returned x.v∧∃ lab',PAt B lab' w' K { X with L:=L'.took q }∧Mv PM w lab w' lab':=by
 have h1:=h.alloc7 Zero98;have m1:Mv (fun _=>False) w lab (w.alloc Zero98) (lab.ext w.heap.size 7):=Mv.alloc _ _ _ _;have hr:Cl 7 (lab.ext w.heap.size 7) (w.alloc Zero98) w.heap.size #[i64 0,.string { data:=#[] },i64 0,i64 0] 98:=Cl.alloc _ _ _ _ _;obtain ⟨top,cv,kv,vs,hx1⟩:=h1;have c1:(w.alloc Zero98).cell? ⟨K.p,1,none⟩=some (.pointer (some ⟨K.b,0,none⟩)):=hx1.cl.cell 1;have HC:=nextItem_c R hx hx1.lx.at;obtain ⟨W,hW⟩:∃ W,W=w.alloc Zero98:=⟨_,rfl⟩;have hW2:w.alloc (Obj.cells #[Value.int IntKind.i64 0,Value.string { data:=#[] },Value.int IntKind.i64 0,Value.int IntKind.i64 0] 98)=W:=hW.symm;rw [← hW] at m1 hr hx1 c1 HC;clear hW h;go_enter Tryz.func55,Tryz.ntmps55;go_wp2_with fail;refine HC.mono ?_;rintro e w2 ⟨rfl,hA⟩;obtain ⟨hl,ml⟩:=Lx.back hA;have hr2:=hr.mv ml (by decide);have hp2:=hx1.withLx hl ml;have mm:=(m1.mono (M':=PM) (fun _ h=>h.elim)).trans ml (by rintro x rfl;decide);obtain ⟨xt,xv,xl,xp⟩:=x;have d0:w2.cell? ⟨w.heap.size,0,none⟩=some (.int .i64 0):=hr2.cell 0;have d1:w2.cell? ⟨w.heap.size,1,none⟩=some (.string { data:=#[] }):=hr2.cell 1;have d2:w2.cell? ⟨w.heap.size,2,none⟩=some (.int .i64 0):=hr2.cell 2;have d3:w2.cell? ⟨w.heap.size,3,none⟩=some (.int .i64 0):=hr2.cell 3;have e0:=hr2.free 0;have e1:=hr2.free 1;have e2:=hr2.free 2;have e3:=hr2.free 3;have hlab:=hr2.2;have m7:Mv (·=7) w2 ((lab.ext w.heap.size 7).ext W.heap.size 1) ((((w2.setCell ⟨w.heap.size,0,none⟩ (i64 xt)).setCell ⟨w.heap.size,1,none⟩ (.string xv)).setCell ⟨w.heap.size,2,none⟩ (i64 xl)).setCell ⟨w.heap.size,3,none⟩ (i64 xp)) ((lab.ext w.heap.size 7).ext W.heap.size 1) :=
  (((Mv.setCell _ _ _ _ hlab).trans (Mv.setCell _ _ _ _ hlab) (fun _ h=>h)).trans (Mv.setCell _ _ _ _ hlab) (fun _ h=>h)).trans (Mv.setCell _ _ _ _ hlab) (fun _ h=>h)
 have hp3:=hp2.mv m7 (fun x hx e=>hx e);have c13:=blk_setCell (blk_setCell (blk_setCell (blk_setCell hr2.1 0 (i64 xt)) 1 (.string xv)) 2 (i64 xl)) 3 (i64 xp);have HC13:=Lib.hid c13;have HX:=Lib.hid hx;have HL:=Lib.hid hlab;have HM:Mv PM w lab ((((w2.setCell ⟨w.heap.size,0,none⟩ (i64 xt)).setCell ⟨w.heap.size,1,none⟩ (.string xv)).setCell ⟨w.heap.size,2,none⟩ (i64 xl)).setCell ⟨w.heap.size,3,none⟩ (i64 xp)) ((lab.ext w.heap.size 7).ext W.heap.size 1):=by
  refine ⟨mm.os,mm.tape,mm.output,Nat.le_trans mm.size m7.size,fun k hk hn=>?_,mm.lab⟩;refine Eq.trans ?_ (mm.block k hk hn);have hne:k ≠ w.heap.size:=by omega
  rw [Below.heap_setCell _ _ _ _ hne,Below.heap_setCell _ _ _ _ hne,Below.heap_setCell _ _ _ _ hne,Below.heap_setCell _ _ _ _ hne]
 clear c13 hx hlab hr2 hr hp2 m7 hA hl ml hx1 HC;simp only [It.v];go_wp2;refine bodyPost_ret (results_cell rfl rfl HC13.out Tryz.underlying98 rfl info98) rfl ?_;exact ⟨rfl,_,hp3,HM⟩
end
end Go.Cf
