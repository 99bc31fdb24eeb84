/-
  Texts joined: Rt Cb Wc Wd Wf We1.
-/
import Derived.Test.YtackodbeohaidaaGreatDoorZq02
import Derived.Test.YtackodbeohaidaaGreatDoorZq03
import Derived.Test.YtackodbeohaidaaGreatDoorZq05
import Derived.Deep.Cut
import Derived.Deep.CutRange
import Derived.Deep.CutBlock
namespace Go.Cf
open Go.RowKit Go.Conc Go.Proofs
def goodB (c:Nat):Prop:=c=45 ∨ c=46 ∨ c=95 ∨ (48≤c∧c≤57) ∨ (65≤c∧c≤90) ∨ (97≤c∧c≤122)
section
variable {k sfx:ByteArray} {K:PK}
end
def letB (c:Nat):Prop:=(65≤c∧c≤90) ∨ (97≤c∧c≤122)
def bareB (s:ByteArray) (j:Nat):Prop:=letB (byteAt s j) ∨ (j ≠ 0∧goodB (byteAt s j))
def kwWords:List (List UInt8):=[[116,114,117,101],[121,101,115],[111,110],[102,97,108,115,101],[110,111],[111,102,102],[105,110,99,108,117,100,101]]
structure Bare (s:ByteArray):Prop where
 pos:0 < s.size
 bytes:∀ j,j < s.size→bareB s j
 kw:∀ x ∈ kwWords,Lib.toLowerA s.data.toList ≠ x
theorem kwClass (b:UInt8):(97≤b.toNat∧b.toNat≤122) ∨ (65≤b.toNat∧b.toNat≤90) ∨ (48≤b.toNat∧b.toNat≤57) ∨ (b.toNat=46) ∨ (b.toNat=45) ∨ (b.toNat=95) ∨ (123≤b.toNat) ∨ (91≤b.toNat∧b.toNat≤96∧b.toNat ≠ 95) ∨ (58≤b.toNat∧b.toNat≤64) ∨ (b.toNat≤47∧b.toNat ≠ 46∧b.toNat ≠ 45):=by omega
def wordsRow:Array Value:=#[.string ⟨#[116,114,117,101]⟩,.string ⟨#[121,101,115]⟩,.string ⟨#[111,110]⟩,.string ⟨#[102,97,108,115,101]⟩,.string ⟨#[110,111]⟩,.string ⟨#[111,102,102]⟩,.string ⟨#[105,110,99,108,117,100,101]⟩]
theorem word_at (m:Nat) (h:m < 7):∃ x:ByteArray,wordsRow[m]?=some (.string x)∧kwWords[m]?=some x.data.toList:=by
 match m,h with
 | 0,_=>exact ⟨_,rfl,rfl⟩
 | 1,_=>exact ⟨_,rfl,rfl⟩
 | 2,_=>exact ⟨_,rfl,rfl⟩
 | 3,_=>exact ⟨_,rfl,rfl⟩
 | 4,_=>exact ⟨_,rfl,rfl⟩
 | 5,_=>exact ⟨_,rfl,rfl⟩
 | 6,_=>exact ⟨_,rfl,rfl⟩
set_option maxRecDepth 100000 in
set_option maxHeartbeats 8000000 in
theorem confBare_c (s:ByteArray) (hs:s.size≤2147483647) (w:World):Calls Tryz.prog 34 #[.string s] w fun e w'=>(∃ ok:Bool,e=.returned (.bool ok)∧(ok=true→Bare s))∧Below w.heap.size w w':=by
 go_enter Tryz.func34,Tryz.ntmps34;go_wp2_with fail;go_loopw [3] (fun i wr=>∃ k:Nat,k≤s.size∧i=.int .i64 k∧wr=w∧∀ j,j < k→bareB s j) (fun i _=>s.size - (RowKit.intOf i).toNat)
 case atStart=>exact ⟨0,Nat.zero_le _,rfl,rfl,fun j hj=>absurd hj (Nat.not_lt_zero j)⟩
 case round =>
  obtain ⟨k,hk,rfl,hwr,hall⟩:=hrel;have hwr':=hwr.symm;clear hwr;subst hwr';have HA:=Lib.hid hall;clear hall;by_cases hlt:k < s.size
  ·have h1:(k:Int) < (s.size:Int):=by omega
   obtain ⟨b,hbb⟩:∃ b,b=s[k]'hlt:=⟨_,rfl⟩;have hb1:(s[k]'hlt)=b:=hbb.symm;have hB:byteAt s k=b.toNat:=by rw [← byteAt_get s k hlt,hb1]
   have HB:=Lib.hid hB;clear hbb hB;have step:∀ (_:bareB s k) j,j < k + 1→bareB s j:=fun hk2 j hj=>(Nat.lt_or_eq_of_le (Nat.le_of_lt_succ hj)).elim (fun h=>HA.out j h) (fun h=>h ▸ hk2)
   have HS:=Lib.hid step;clear step;rcases kwClass b with hc | hc | hc | hc | hc | hc | hc | hc | hc | hc
   ·have e_ge97:decide ((97:Int)≤(b.toNat:Int))=true:=decide_eq_true (by omega);have e_le122:decide ((b.toNat:Int)≤122)=true:=decide_eq_true (by omega);go_wp2;go_roundw
    case rel=>exact ⟨k + 1,by omega,by go_num,trivial,HS.out (by rw [bareB,HB.out];exact .inl (by unfold letB;omega))⟩
    case measure=>simp [RowKit.intOf];omega
   ·have e_ge97:decide ((97:Int)≤(b.toNat:Int))=false:=decide_eq_false (by omega);have e_ge65:decide ((65:Int)≤(b.toNat:Int))=true:=decide_eq_true (by omega);have e_le90:decide ((b.toNat:Int)≤90)=true:=decide_eq_true (by omega);go_wp2;go_roundw
    case rel=>exact ⟨k + 1,by omega,by go_num,trivial,HS.out (by rw [bareB,HB.out];exact .inl (by unfold letB;omega))⟩
    case measure=>simp [RowKit.intOf];omega
   ·have e_ge97:decide ((97:Int)≤(b.toNat:Int))=false:=decide_eq_false (by omega);have e_ge65:decide ((65:Int)≤(b.toNat:Int))=false:=decide_eq_false (by omega);have e_ge48:decide ((48:Int)≤(b.toNat:Int))=true:=decide_eq_true (by omega);have e_le57:decide ((b.toNat:Int)≤57)=true:=decide_eq_true (by omega);by_cases h0:k=0
    ·subst h0;go_wp2;go_ret;exact ⟨⟨false,rfl,fun h=>by cases h⟩,Below.refl _ _⟩
    ·have e0:(((k:Nat):Int) == 0)=false:=bqf (by omega);go_wp2;go_roundw
     case rel=>exact ⟨k + 1,by omega,by go_num,trivial,HS.out (by rw [bareB,HB.out];exact .inr ⟨h0,by unfold goodB;omega⟩)⟩
     case measure=>simp [RowKit.intOf];omega
   ·have e_ge97:decide ((97:Int)≤(b.toNat:Int))=false:=decide_eq_false (by omega);have e_ge65:decide ((65:Int)≤(b.toNat:Int))=false:=decide_eq_false (by omega);have e_ge48:decide ((48:Int)≤(b.toNat:Int))=false:=decide_eq_false (by omega);have e_eq46:((b.toNat:Int) == 46)=true:=beq_iff_eq.2 (by omega);by_cases h0:k=0
    ·subst h0;go_wp2;go_ret;exact ⟨⟨false,rfl,fun h=>by cases h⟩,Below.refl _ _⟩
    ·have e0:(((k:Nat):Int) == 0)=false:=bqf (by omega);go_wp2;go_roundw
     case rel=>exact ⟨k + 1,by omega,by go_num,trivial,HS.out (by rw [bareB,HB.out];exact .inr ⟨h0,by unfold goodB;omega⟩)⟩
     case measure=>simp [RowKit.intOf];omega
   ·have e_ge97:decide ((97:Int)≤(b.toNat:Int))=false:=decide_eq_false (by omega);have e_ge65:decide ((65:Int)≤(b.toNat:Int))=false:=decide_eq_false (by omega);have e_ge48:decide ((48:Int)≤(b.toNat:Int))=false:=decide_eq_false (by omega);have e_eq46:((b.toNat:Int) == 46)=false:=bqf (by omega);have e_eq45:((b.toNat:Int) == 45)=true:=beq_iff_eq.2 (by omega);by_cases h0:k=0
    ·subst h0;go_wp2;go_ret;exact ⟨⟨false,rfl,fun h=>by cases h⟩,Below.refl _ _⟩
    ·have e0:(((k:Nat):Int) == 0)=false:=bqf (by omega);go_wp2;go_roundw
     case rel=>exact ⟨k + 1,by omega,by go_num,trivial,HS.out (by rw [bareB,HB.out];exact .inr ⟨h0,by unfold goodB;omega⟩)⟩
     case measure=>simp [RowKit.intOf];omega
   ·have e_ge97:decide ((97:Int)≤(b.toNat:Int))=false:=decide_eq_false (by omega);have e_ge65:decide ((65:Int)≤(b.toNat:Int))=true:=decide_eq_true (by omega);have e_le90:decide ((b.toNat:Int)≤90)=false:=decide_eq_false (by omega);have e_ge48:decide ((48:Int)≤(b.toNat:Int))=true:=decide_eq_true (by omega);have e_le57:decide ((b.toNat:Int)≤57)=false:=decide_eq_false (by omega);have e_eq46:((b.toNat:Int) == 46)=false:=bqf (by omega);have e_eq45:((b.toNat:Int) == 45)=false:=bqf (by omega);have e_eq95:((b.toNat:Int) == 95)=true:=beq_iff_eq.2 (by omega);by_cases h0:k=0
    ·subst h0;go_wp2;go_ret;exact ⟨⟨false,rfl,fun h=>by cases h⟩,Below.refl _ _⟩
    ·have e0:(((k:Nat):Int) == 0)=false:=bqf (by omega);go_wp2;go_roundw
     case rel=>exact ⟨k + 1,by omega,by go_num,trivial,HS.out (by rw [bareB,HB.out];exact .inr ⟨h0,by unfold goodB;omega⟩)⟩
     case measure=>simp [RowKit.intOf];omega
   ·have e_ge97:decide ((97:Int)≤(b.toNat:Int))=true:=decide_eq_true (by omega);have e_le122:decide ((b.toNat:Int)≤122)=false:=decide_eq_false (by omega);have e_ge65:decide ((65:Int)≤(b.toNat:Int))=true:=decide_eq_true (by omega);have e_le90:decide ((b.toNat:Int)≤90)=false:=decide_eq_false (by omega);have e_ge48:decide ((48:Int)≤(b.toNat:Int))=true:=decide_eq_true (by omega);have e_le57:decide ((b.toNat:Int)≤57)=false:=decide_eq_false (by omega);have e_eq46:((b.toNat:Int) == 46)=false:=bqf (by omega);have e_eq45:((b.toNat:Int) == 45)=false:=bqf (by omega);have e_eq95:((b.toNat:Int) == 95)=false:=bqf (by omega);by_cases h0:k=0
    ·subst h0;go_wp2;go_ret;exact ⟨⟨false,rfl,fun h=>by cases h⟩,Below.refl _ _⟩
    ·have e0:(((k:Nat):Int) == 0)=false:=bqf (by omega);go_wp2;go_ret;exact ⟨⟨false,rfl,fun h=>by cases h⟩,Below.refl _ _⟩
   ·have e_ge97:decide ((97:Int)≤(b.toNat:Int))=false:=decide_eq_false (by omega);have e_ge65:decide ((65:Int)≤(b.toNat:Int))=true:=decide_eq_true (by omega);have e_le90:decide ((b.toNat:Int)≤90)=false:=decide_eq_false (by omega);have e_ge48:decide ((48:Int)≤(b.toNat:Int))=true:=decide_eq_true (by omega);have e_le57:decide ((b.toNat:Int)≤57)=false:=decide_eq_false (by omega);have e_eq46:((b.toNat:Int) == 46)=false:=bqf (by omega);have e_eq45:((b.toNat:Int) == 45)=false:=bqf (by omega);have e_eq95:((b.toNat:Int) == 95)=false:=bqf (by omega);by_cases h0:k=0
    ·subst h0;go_wp2;go_ret;exact ⟨⟨false,rfl,fun h=>by cases h⟩,Below.refl _ _⟩
    ·have e0:(((k:Nat):Int) == 0)=false:=bqf (by omega);go_wp2;go_ret;exact ⟨⟨false,rfl,fun h=>by cases h⟩,Below.refl _ _⟩
   ·have e_ge97:decide ((97:Int)≤(b.toNat:Int))=false:=decide_eq_false (by omega);have e_ge65:decide ((65:Int)≤(b.toNat:Int))=false:=decide_eq_false (by omega);have e_ge48:decide ((48:Int)≤(b.toNat:Int))=true:=decide_eq_true (by omega);have e_le57:decide ((b.toNat:Int)≤57)=false:=decide_eq_false (by omega);have e_eq46:((b.toNat:Int) == 46)=false:=bqf (by omega);have e_eq45:((b.toNat:Int) == 45)=false:=bqf (by omega);have e_eq95:((b.toNat:Int) == 95)=false:=bqf (by omega);by_cases h0:k=0
    ·subst h0;go_wp2;go_ret;exact ⟨⟨false,rfl,fun h=>by cases h⟩,Below.refl _ _⟩
    ·have e0:(((k:Nat):Int) == 0)=false:=bqf (by omega);go_wp2;go_ret;exact ⟨⟨false,rfl,fun h=>by cases h⟩,Below.refl _ _⟩
   ·have e_ge97:decide ((97:Int)≤(b.toNat:Int))=false:=decide_eq_false (by omega);have e_ge65:decide ((65:Int)≤(b.toNat:Int))=false:=decide_eq_false (by omega);have e_ge48:decide ((48:Int)≤(b.toNat:Int))=false:=decide_eq_false (by omega);have e_eq46:((b.toNat:Int) == 46)=false:=bqf (by omega);have e_eq45:((b.toNat:Int) == 45)=false:=bqf (by omega);have e_eq95:((b.toNat:Int) == 95)=false:=bqf (by omega);by_cases h0:k=0
    ·subst h0;go_wp2;go_ret;exact ⟨⟨false,rfl,fun h=>by cases h⟩,Below.refl _ _⟩
    ·have e0:(((k:Nat):Int) == 0)=false:=bqf (by omega);go_wp2;go_ret;exact ⟨⟨false,rfl,fun h=>by cases h⟩,Below.refl _ _⟩
  ·have hke:k=s.size:=by omega
   subst hke;go_wp2_with fail;have hr0:(w.alloc (.cells wordsRow 9)).heap[w.heap.size]?=some (.cells wordsRow 9 (0,0)):=heap_alloc_new w _;have hb0:Below w.heap.size w (w.alloc (.cells wordsRow 9)):=(Below.refl _ _).alloc (Nat.le_refl _) _;obtain ⟨lo,hlo⟩:∃ lo:ByteArray,lo=⟨(Lib.toLowerA s.data.toList).toArray⟩:=⟨_,rfl⟩;have hd:∀ w,Calls Tryz.prog 41 #[.string s] w fun e w'=>e=.returned (.string lo)∧Below w.heap.size w w':=fun w=>by rw [hlo];exact dnLower_c s hs w
   have hlo2:lo.data.toList=Lib.toLowerA s.data.toList:=by rw [hlo]
   have H0:=Lib.hid (aI hr0 hb0);clear hr0 hb0 hlo;go_loopw [60] (fun i wq=>∃ m:Nat,m≤7∧i=.int .i64 m∧wq.heap[w.heap.size]?=some (.cells wordsRow 9 (0,0))∧Below w.heap.size w wq∧∀ x ∈ kwWords.take m,lo.data.toList ≠ x) (fun i _=>7 - (RowKit.intOf i).toNat)
   case atStart=>exact ⟨0,by omega,rfl,H0.out.1,H0.out.2,fun x hx=>by simp at hx⟩
   case round =>
    obtain ⟨m,hm,rfl,hrow,hb,hne⟩:=hrel;have HN:=Lib.hid hne;clear hne;by_cases hlt:m < 7
    ·obtain ⟨x,hx1,hx2⟩:=word_at m hlt;have q:=(blk_cell hrow m).trans hx1;have hg:=lt_of_block hrow;have hm2:(m:Int) < 7:=by omega
     go_wp2_with fail
     refine (hd _).mono ?_;rintro e w2 ⟨rfl,hb2⟩;have hrow2:=(hb2.block _ hg).trans hrow;have hb3:=hb.trans (hb2.mono hb.size);have hg3:w.heap.size < w2.heap.size:=Nat.lt_of_lt_of_le hg hb2.size;have HX:=Lib.hid hx2;clear hb2 hb hrow q hx1 hd hx2;by_cases hx:lo.toList=x.toList
     ·have ex:(lo.toList == x.toList)=true:=beq_iff_eq.2 hx;clear hx;go_wp2;go_ret;exact ⟨⟨false,rfl,fun h=>by cases h⟩,hb3⟩
     ·have ex:(lo.toList == x.toList)=false:=bqf hx;have hnn:∀ y ∈ kwWords.take (m + 1),lo.data.toList ≠ y:=by
       intro y hy;rw [List.take_add_one,HX.out] at hy;rcases List.mem_append.1 hy with hy | hy
       ·exact HN.out y hy
       ·simp only [Option.toList_some,List.mem_singleton] at hy;rw [hy];intro he;exact hx (by rw [Lib.toList_data,Lib.toList_data];exact he)
      have HNN:=Lib.hid hnn;clear hx hnn;go_wp2;go_roundw
      case rel=>exact ⟨m + 1,by omega,by go_num,hrow2,hb3,HNN.out⟩
      case measure=>simp [RowKit.intOf];omega
    ·have hm7:m=7:=by omega
     subst hm7;have hall:∀ x ∈ kwWords,Lib.toLowerA s.data.toList ≠ x:=by
      rw [← hlo2];exact HN.out
     have HALL:=Lib.hid hall;clear hall hrow hd HN hlo2;by_cases h0:s.size=0
     ·have es:s.toList.isEmpty=true:=by rw [Lib.toList_data,List.isEmpty_iff,← List.length_eq_zero_iff,data_length];exact h0
      clear h0;go_wp2;go_ret;exact ⟨⟨false,rfl,fun h=>by cases h⟩,hb⟩
     ·have es:s.toList.isEmpty=false:=toList_some (by omega);have hpos:0 < s.size:=by omega
      clear h0;go_wp2;go_ret;exact ⟨⟨true,rfl,fun _=>⟨hpos,HA.out,HALL.out⟩⟩,hb⟩
theorem nlc_app (a b:ByteArray):nlc (a ++ b) (a ++ b).size=nlc a a.size + nlc b b.size:=by
 unfold nlc;rw [ByteArray.data_append,Array.toList_append];have h1:(a ++ b).size=a.data.toList.length + b.data.toList.length:=by rw [bsa,data_length,data_length]
 rw [h1,List.take_of_length_le (by simp),List.filter_append,List.length_append,List.take_of_length_le (by rw [data_length];exact Nat.le_refl _),List.take_of_length_le (by rw [data_length];exact Nat.le_refl _)]
structure Wrote (W W':CW) (T:ByteArray):Prop where
 text:W'.text=W.text ++ T
 bad:W'.bad=false→W.bad=false
 line:W'.line=W.line + nlc T T.size
 known:W'.known=W.known
 nv:W'.nv=W.nv
 vals:W'.vals=W.vals
 used:W'.used=W.used
 inner:W'.inner=W.inner
section
variable {lab lab1:Lab} {w w1:World} {b:Nat} {W W1 W2:CW} {T T2:ByteArray}
theorem Wrote.trans (h:Wrote W W1 T) (k:Wrote W1 W2 T2):Wrote W W2 (T ++ T2) :=
 ⟨by rw [k.text,h.text,ByteArray.append_assoc],fun e=>h.bad (k.bad e),by rw [k.line,h.line,nlc_app,Nat.add_assoc],k.known.trans h.known,k.nv.trans h.nv,k.vals.trans h.vals,k.used.trans h.used,k.inner.trans h.inner⟩
theorem Wrote.put (W:CW) (s:ByteArray):Wrote W (W.put s) s:=⟨rfl,fun e=>by
 simp only [CW.put,Bool.or_eq_false_iff] at e
 exact e.1,rfl,rfl,rfl,rfl,rfl,rfl⟩
theorem Wrote.pick (W:CW) (n:Nat):Wrote W (W.pick n).2 ⟨#[]⟩:=by
 unfold CW.pick
 split
 ·exact ⟨(ByteArray.append_empty).symm,fun h=>h,rfl,rfl,rfl,rfl,rfl,rfl⟩
 ·exact ⟨(ByteArray.append_empty).symm,fun h=>h,rfl,rfl,rfl,rfl,rfl,rfl⟩
theorem Wrote.size (h:Wrote W W1 T):W1.text.size=W.text.size + T.size:=by rw [h.text,bsa]
theorem Wrote.line_le (h:Wrote W W1 T):W1.line≤W.line + T.size:=by rw [h.line];have:=nlc_le T T.size;omega
theorem empty_app (T:ByteArray):(⟨#[]⟩:ByteArray) ++ T=T:=ByteArray.empty_append
theorem pick_lt (W:CW) (n:Nat) (hn:0 < n):(W.pick n).1 < n:=by
 unfold CW.pick
 split
 ·exact hn
 ·exact Nat.mod_lt _ hn
def CW.flag (W:CW) (x:Bool):CW:={ W with bad:=x }
theorem Wrote.flag (W:CW) (x:Bool) (h:x=false→W.bad=false):Wrote W (W.flag x) ⟨#[]⟩:=⟨(ByteArray.append_empty).symm,h,rfl,rfl,rfl,rfl,rfl,rfl⟩
theorem WAt.flag (h:WAt lab w b W) (x:Bool):WAt lab (w.setCell ⟨b,3,none⟩ (.bool x)) b (W.flag x)∧Mv (·=40) w lab (w.setCell ⟨b,3,none⟩ (.bool x)) lab:=by
 obtain ⟨sv,kn,va,us,inn,h⟩:=h;exact ⟨⟨sv,kn,va,us,inn,h.set (W':=W.flag x) (sv':=sv) 3 (.bool x) rfl h.sty rfl rfl rfl rfl rfl⟩,Mv.setCell _ _ _ _ h.cl.2⟩
theorem WAt.c3 (h:WAt lab w b W):w.cell? ⟨b,3,none⟩=some (.bool W.bad):=by
 obtain ⟨sv,kn,va,us,inn,h⟩:=h;exact h.cl.cell 3
theorem WAt.f3 (h:WAt lab w b W):w.frozen? ⟨b,3,none⟩=false:=by
 obtain ⟨sv,kn,va,us,inn,h⟩:=h;exact h.cl.free 3
def blankT (k:Nat):ByteArray:=match k with
 | 1=>⟨#[32,32]⟩
 | 2=>⟨#[35,32,97,32,99,111,109,109,101,110,116,32,61,32,123,10]⟩
 | 3=>⟨#[47,47,32,97,110,111,116,104,101,114,10,9]⟩
 | 4=>⟨#[10]⟩
 | _=>⟨#[]⟩
set_option maxRecDepth 100000 in
set_option maxHeartbeats 2000000 in
theorem blank_c (h:WAt lab w b W) (ht:W.text.size≤900000000) (hl:W.line≤900000000):Calls Tryz.prog 35 #[.pointer (some ⟨b,0,none⟩)] w fun e w'=>e=.returned (.tuple #[])∧∃ W' k,WAt lab w' b W'∧Wrote W W' (blankT k)∧Mv (·=40) w lab w' lab:=by
 have hw0:=Wrote.pick W 6;have hs0:=hw0.size;have hl0:=hw0.line_le;have hz:(⟨#[]⟩:ByteArray).size=0:=rfl;rw [hz] at hs0 hl0;have hlt:=pick_lt W 6 (by decide);go_enter Tryz.func35,Tryz.ntmps35;go_wp2_with fail;refine (pick_c h 6 (by decide) (by decide)).mono ?_;rintro e w1 ⟨rfl,h1,m1⟩;obtain ⟨k,W1,hkW⟩:∃ k W1,W.pick 6=(k,W1):=⟨_,_,rfl⟩;rw [hkW] at h1 hw0 hs0 hl0 hlt ⊢;simp only at h1 hw0 hs0 hl0 hlt ⊢
 match k,hlt with
 | 0,_ =>
  go_wp2;go_end0;exact ⟨rfl,W1,0,h1,hw0,m1⟩
 | 5,_ =>
  go_wp2;go_end0;exact ⟨rfl,W1,5,h1,hw0,m1⟩
 | 1,_ =>
  go_wp2_with fail
  refine (put_c h1 (blankT 1) (by decide) (by omega) (by omega)).mono ?_;rintro e w2 ⟨rfl,h2,m2⟩;go_wp2;go_end0;exact ⟨rfl,_,1,h2,by have:=hw0.trans (Wrote.put W1 (blankT 1));rwa [empty_app] at this,m1.trans m2 (fun _ h=>h)⟩
 | 2,_ =>
  go_wp2_with fail
  refine (put_c h1 (blankT 2) (by decide) (by omega) (by omega)).mono ?_;rintro e w2 ⟨rfl,h2,m2⟩;go_wp2;go_end0;exact ⟨rfl,_,2,h2,by have:=hw0.trans (Wrote.put W1 (blankT 2));rwa [empty_app] at this,m1.trans m2 (fun _ h=>h)⟩
 | 3,_ =>
  go_wp2_with fail
  refine (put_c h1 (blankT 3) (by decide) (by omega) (by omega)).mono ?_;rintro e w2 ⟨rfl,h2,m2⟩;go_wp2;go_end0;exact ⟨rfl,_,3,h2,by have:=hw0.trans (Wrote.put W1 (blankT 3));rwa [empty_app] at this,m1.trans m2 (fun _ h=>h)⟩
 | 4,_ =>
  go_wp2_with fail
  refine (put_c h1 (blankT 4) (by decide) (by omega) (by omega)).mono ?_;rintro e w2 ⟨rfl,h2,m2⟩;go_wp2;go_end0;exact ⟨rfl,_,4,h2,by have:=hw0.trans (Wrote.put W1 (blankT 4));rwa [empty_app] at this,m1.trans m2 (fun _ h=>h)⟩
end
def q4:ByteArray:=⟨#[34,92,36,39]⟩
inductive KeySp (s:ByteArray):ByteArray→Prop
 | dq (h:Plain s q4):KeySp s (⟨#[34]⟩ ++ s ++ ⟨#[34]⟩)
 | sq (h:Plain s q4):KeySp s (⟨#[39]⟩ ++ s ++ ⟨#[39]⟩)
 | bare (h:Bare s):KeySp s s
def sepT (k:Nat):ByteArray:=match k with
 | 0=>⟨#[32,61,32]⟩
 | 1=>⟨#[61]⟩
 | 2=>⟨#[58,32]⟩
 | 3=>⟨#[58]⟩
 | 4=>⟨#[32]⟩
 | _=>⟨#[32,32,32]⟩
def sepRow:Array Value:=#[.string ⟨#[32,61,32]⟩,.string ⟨#[61]⟩,.string ⟨#[58,32]⟩,.string ⟨#[58]⟩,.string ⟨#[32]⟩,.string ⟨#[32,32,32]⟩]
theorem sep_get (k:Nat) (h:k < 6):sepRow[k]?=some (.string (sepT k)):=by
 match k,h with
 | 0,_=>rfl
 | 1,_=>rfl
 | 2,_=>rfl
 | 3,_=>rfl
 | 4,_=>rfl
 | 5,_=>rfl
section
variable {lab lab1:Lab} {w w1:World} {b:Nat} {W W1 W2:CW} {T T2:ByteArray}
set_option maxRecDepth 100000 in
set_option maxHeartbeats 4000000 in
theorem key_c (h:WAt lab w b W) (s:ByteArray) (v:Value) (hs:s.size≤900000) (ht:W.text.size≤900000000) (hl:W.line≤900000000):Calls Tryz.prog 36 #[.pointer (some ⟨b,0,none⟩),.string s,v] w fun e w'=>e=.returned (.tuple #[])∧∃ W' K j lab',WAt lab' w' b W'∧Wrote W W' (K ++ sepT j)∧j < 6∧K.size≤s.size + 2∧(W'.bad=false→KeySp s K∧0 < s.size∧noKw s)∧Mv (·=40) w lab w' lab':=by
 have hw0:=Wrote.pick W 3;have hlt:=pick_lt W 3 (by decide);go_enter Tryz.func36,Tryz.ntmps36;go_wp2_with fail;refine (pick_c h 3 (by decide) (by decide)).mono ?_;rintro e w1 ⟨rfl,h1,m1⟩;obtain ⟨k,W1,hkW⟩:∃ k W1,W.pick 3=(k,W1):=⟨_,_,rfl⟩;rw [hkW] at h1 hw0 hlt ⊢;simp only at h1 hw0 hlt ⊢;go_upto_region 1 with fail
 go_cut [6] from 9 to 24 (fun s6 wx=>s6=.int .i64 k∧∃ x lab1,WAt lab1 wx b (W1.flag x)∧Mv (·=40) w1 lab wx lab1∧(x=false→W1.bad=false∧0 < s.size∧noKw s))
 case first =>
  have c3:=h1.c3;have f3:=h1.f3
  cases hb:W1.bad with
  | true =>
   rw [hb] at c3;go_wp2_with fail;go_meet
   case rel=>exact ⟨rfl,true,lab,(h1.flag true).1,(h1.flag true).2,fun h=>by cases h⟩
  | false =>
   rw [hb] at c3;by_cases h0:s.size=0
   ·have es:s.toList.isEmpty=true:=by rw [Lib.toList_data,List.isEmpty_iff,← List.length_eq_zero_iff,data_length];exact h0
    clear h0;go_wp2_with fail;go_meet
    case rel=>exact ⟨rfl,true,lab,(h1.flag true).1,(h1.flag true).2,fun h=>by cases h⟩
   ·have es:s.toList.isEmpty=false:=toList_some (by omega);have hpos:0 < s.size:=by omega
    clear h0;obtain ⟨lo,hlo⟩:∃ lo:ByteArray,lo=⟨(Lib.toLowerA s.data.toList).toArray⟩:=⟨_,rfl⟩;have hd:∀ w,Calls Tryz.prog 41 #[.string s] w fun e w'=>e=.returned (.string lo)∧Below w.heap.size w w':=fun w=>by rw [hlo];exact dnLower_c s (by omega) w
    have hlo2:lo.toList=Lib.toLowerA s.data.toList:=by rw [hlo,Lib.toList_data]
    clear hlo;go_wp2_with fail;refine (hd _).mono ?_;rintro e w2 ⟨rfl,hb2⟩;have m2:=Mv.below (M:=(·=40)) hb2 lab 45;have h2:=h1.mv (Mv.below (M:=fun _=>False) hb2 lab 45) (fun _ _ h=>h);have c3:=h2.c3;have f3:=h2.f3;rw [hb] at c3;have HL:=Lib.hid hlo2;clear hd hlo2;by_cases hx:lo.toList=[105,110,99,108,117,100,101]
    ·have ex:(lo.toList == [105,110,99,108,117,100,101])=true:=beq_iff_eq.2 hx;clear hx;go_wp2_with fail;go_meet
     case rel=>exact ⟨rfl,true,_,(h2.flag true).1,m2.trans (h2.flag true).2 (fun _ h=>h),fun h=>by cases h⟩
    ·have ex:(lo.toList == [105,110,99,108,117,100,101])=false:=bqf hx;have hkw:noKw s:=by unfold noKw;rw [← HL.out];exact ex
     have HK:=Lib.hid hkw;clear hx hkw;go_wp2_with fail;go_meet
     case rel=>exact ⟨rfl,false,_,(h2.flag false).1,m2.trans (h2.flag false).2 (fun _ h=>h),fun _=>⟨hb,hpos,HK.out⟩⟩
 case rest =>
  obtain ⟨rfl,x,lab1,h2,m2,hx⟩:=hcut;have hwf:=hw0.trans (Wrote.flag W1 x (fun e=>(hx e).1));rw [empty_app] at hwf;have hsz:=hwf.size;have hln:=hwf.line_le;rw [show (⟨#[]⟩:ByteArray).size=0 from rfl] at hsz hln;go_upto_block 0 with fail
  go_cut [6] from 25 to 75 (fun s6 wx=>s6=.int .i64 k∧∃ W2 lab2 K,WAt lab2 wx b W2∧Wrote (W1.flag x) W2 K∧K.size≤s.size + 2∧(W2.bad=false→KeySp s K)∧Mv (·=40) wc lab1 wx lab2)
  case first =>
   have hq:((⟨#[34]⟩:ByteArray) ++ s ++ ⟨#[34]⟩).size=s.size + 2:=by rw [bsa,bsa];show 1 + s.size + 1=_;omega
   have hq':((⟨#[39]⟩:ByteArray) ++ s ++ ⟨#[39]⟩).size=s.size + 2:=by rw [bsa,bsa];show 1 + s.size + 1=_;omega
   have g1:¬ 9223372036854775807 < 1 + s.size:=by omega
   have g2:¬ 9223372036854775807 < 1 + s.size + 1:=by omega
   have HH:=Lib.hid h2;clear h2;go_upto_region 4 with fail
   go_cut [46] from 47 to 52 (fun s46 wx=>∃ z,s46=.bool z∧(z=true→Plain s q4)∧∃ n,wx=wc.drewN n)
   case first =>
    by_cases hk1:k=1
    ·have e1:((k:Int) == 1)=true:=beq_iff_eq.2 (by omega);clear hk1;go_wp2_with fail;refine (confPlain_c s q4 (by omega) (by decide)).mono ?_;rintro e w3 ⟨⟨ok,rfl,hok⟩,hn⟩;go_wp2_with fail;go_meet
     case rel=>exact ⟨ok,rfl,hok,hn⟩
    ·have e1:((k:Int) == 1)=false:=bqf (by omega);go_wp2_with fail;go_meet
     case rel=>exact ⟨false,rfl,(fun h=>by cases h),0,rfl⟩
   case rest =>
    obtain ⟨z,rfl,hz,n,rfl⟩:=hcut;have h3:=HH.out.mv ((Mv.refl (fun _=>False) wc lab1).drewN n) (fun _ _ h=>h);have m3:Mv (·=40) wc lab1 (wc.drewN n) lab1:=(Mv.refl _ wc lab1).drewN n
    cases z with
    | true =>
     have hP:=hz rfl;go_wp2_with fail;have hp1:((⟨#[34]⟩:ByteArray) ++ s ++ ⟨#[34]⟩).size≤1000000:=by omega
     have hp2:(W1.flag x).text.size≤1000000000:=by omega
     have hp3:(W1.flag x).line≤1000000000:=by omega
     refine (put_c h3 _ hp1 hp2 hp3).mono ?_;rintro e w4 ⟨rfl,h4,m4⟩;go_wp2_with fail;go_meet
     case rel=>exact ⟨rfl,_,_,_,h4,Wrote.put _ _,by omega,fun _=>.dq hP,m3.trans m4 (fun _ h=>h)⟩
    | false =>
     have HH3:=Lib.hid h3;clear h3;go_upto_region 6 with fail
     go_cut [58] from 59 to 64 (fun s58 wx=>∃ z,s58=.bool z∧(z=true→Plain s q4)∧∃ n2,wx=(wc.drewN n).drewN n2)
     case first =>
      by_cases hk2:k=2
      ·have e2:((k:Int) == 2)=true:=beq_iff_eq.2 (by omega);clear hk2;go_wp2_with fail;refine (confPlain_c s q4 (by omega) (by decide)).mono ?_;rintro e w3 ⟨⟨ok,rfl,hok⟩,hn⟩;go_wp2_with fail;go_meet
       case rel=>exact ⟨ok,rfl,hok,hn⟩
      ·have e2:((k:Int) == 2)=false:=bqf (by omega);go_wp2_with fail;go_meet
       case rel=>exact ⟨false,rfl,(fun h=>by cases h),0,rfl⟩
     case rest =>
      obtain ⟨z2,rfl,hz2,n2,hwc⟩:=hcut;rw [drewN_add] at hwc;subst hwc;have h4:=HH.out.mv ((Mv.refl (fun _=>False) wc lab1).drewN (n + n2)) (fun _ _ h=>h);have m4:Mv (·=40) wc lab1 (wc.drewN (n + n2)) lab1:=(Mv.refl _ wc lab1).drewN (n + n2);obtain ⟨wd,hwd⟩:∃ wd,wd=wc.drewN (n + n2):=⟨_,rfl⟩;rw [← hwd] at h4 m4 ⊢;clear hwd HH3 m3
      cases z2 with
      | true =>
       have hP:=hz2 rfl;go_wp2_with fail;have hp1:((⟨#[39]⟩:ByteArray) ++ s ++ ⟨#[39]⟩).size≤1000000:=by omega
       have hp2:(W1.flag x).text.size≤1000000000:=by omega
       have hp3:(W1.flag x).line≤1000000000:=by omega
       refine (put_c h4 _ hp1 hp2 hp3).mono ?_;rintro e w5 ⟨rfl,h5,m5⟩;go_wp2_with fail;go_meet
       case rel=>exact ⟨rfl,_,_,_,h5,Wrote.put _ _,by omega,fun _=>.sq hP,m4.trans m5 (fun _ h=>h)⟩
      | false =>
       go_wp2_with fail
       refine (confBare_c s (by omega) wd).mono ?_;rintro e w5 ⟨⟨ok,rfl,hok⟩,hb5⟩;have m5:=Mv.below (M:=(·=40)) hb5 lab1 45;have h5:=h4.mv (Mv.below (M:=fun _=>False) hb5 lab1 45) (fun _ _ h=>h);have m6:=m4.trans m5 (fun _ h=>h);clear m5 hb5 h4 m4
       cases ok with
       | true =>
        have hB:=hok rfl;go_wp2_with fail;have hp2:(W1.flag x).text.size≤1000000000:=by omega
        have hp3:(W1.flag x).line≤1000000000:=by omega
        refine (put_c h5 _ (by omega) hp2 hp3).mono ?_;rintro e w7 ⟨rfl,h7,m7⟩;go_wp2_with fail;go_meet
        case rel=>exact ⟨rfl,_,_,_,h7,Wrote.put _ _,by omega,fun _=>.bare hB,m6.trans m7 (fun _ h=>h)⟩
       | false =>
        clear hok;go_upto_region 2 with fail
        go_cut [6] from 25 to 40 (fun s6 wx=>s6=.int .i64 k∧∃ y lab3,WAt lab3 wx b ((W1.flag x).flag y)∧Mv (·=40) wc lab1 wx lab3∧(y=false→(W1.flag x).bad=false∧Plain s q4))
        case first =>
         have c3:=h5.c3;have f3:=h5.f3
         cases hx2:(W1.flag x).bad with
         | true =>
          rw [hx2] at c3;go_wp2_with fail;go_meet
          case rel=>exact ⟨rfl,true,_,(h5.flag true).1,m6.trans (h5.flag true).2 (fun _ h=>h),fun h=>by cases h⟩
         | false =>
          rw [hx2] at c3;go_wp2_with fail;refine (confPlain_c s q4 (by omega) (by decide)).mono ?_;rintro e w7 ⟨⟨ok,rfl,hok⟩,n7,rfl⟩;have h7:=h5.mv ((Mv.refl (fun _=>False) w5 _).drewN n7) (fun _ _ h=>h);have m7:=m6.trans ((Mv.refl (·=40) w5 _).drewN n7) (fun _ h=>h);obtain ⟨wz,hwz⟩:∃ wz,wz=w5.drewN n7:=⟨_,rfl⟩;rw [← hwz] at h7 m7 ⊢;clear hwz c3 f3;have c3:=h7.c3;have f3:=h7.f3;rw [hx2] at c3
          cases ok with
          | false =>
           go_wp2_with fail
           go_meet
           case rel=>exact ⟨rfl,true,_,(h7.flag true).1,m7.trans (h7.flag true).2 (fun _ h=>h),fun h=>by cases h⟩
          | true =>
           have hP:=hok rfl;by_cases h0:s.size=0
           ·have es:s.toList.isEmpty=true:=by rw [Lib.toList_data,List.isEmpty_iff,← List.length_eq_zero_iff,data_length];exact h0
            clear h0;go_wp2_with fail;go_meet
            case rel=>exact ⟨rfl,true,_,(h7.flag true).1,m7.trans (h7.flag true).2 (fun _ h=>h),fun h=>by cases h⟩
           ·have es:s.toList.isEmpty=false:=toList_some (by omega);clear h0;go_wp2_with fail;go_meet
            case rel=>exact ⟨rfl,false,_,(h7.flag false).1,m7.trans (h7.flag false).2 (fun _ h=>h),fun _=>⟨hx2,hP⟩⟩
        case rest =>
         obtain ⟨rfl,y,lab3,h8,m8,hy⟩:=hcut;go_wp2_with fail;have hp1:((⟨#[34]⟩:ByteArray) ++ s ++ ⟨#[34]⟩).size≤1000000:=by omega
         have hp2:((W1.flag x).flag y).text.size≤1000000000:=by show (W1.flag x).text.size≤_;omega
         have hp3:((W1.flag x).flag y).line≤1000000000:=by show (W1.flag x).line≤_;omega
         refine (put_c h8 _ hp1 hp2 hp3).mono ?_;rintro e w9 ⟨rfl,h9,m9⟩;have hwr:=(Wrote.flag (W1.flag x) y (fun e=>(hy e).1)).trans (Wrote.put ((W1.flag x).flag y) ((⟨#[34]⟩:ByteArray) ++ s ++ ⟨#[34]⟩));rw [empty_app] at hwr;have hbd:(((W1.flag x).flag y).put ((⟨#[34]⟩:ByteArray) ++ s ++ ⟨#[34]⟩)).bad=false→Plain s q4:=fun e=>(hy ((Wrote.put ((W1.flag x).flag y) ((⟨#[34]⟩:ByteArray) ++ s ++ ⟨#[34]⟩)).bad e)).2
         go_wp2_with fail
         go_meet
         case rel=>exact ⟨rfl,_,_,_,h9,hwr,by omega,fun e=>.dq (hbd e),m8.trans m9 (fun _ h=>h)⟩
  case rest =>
   obtain ⟨rfl,W2,lab2,K,h4,hw4,hks,hkk,m4⟩:=hcut;have hwa:=hwf.trans hw4;rw [empty_app] at hwa;have hsa:=hwa.size;have hla:=hwa.line_le;have hwp:=Wrote.pick W2 6;have hlp:=pick_lt W2 6 (by decide);have mA:=m1.trans (m2.trans m4 (fun _ h=>h)) (fun _ h=>h);have hr0:∀ o,Mv (fun _=>False) wc lab2 (wc.alloc o) (lab2.ext wc.heap.size 45):=fun o=>Mv.alloc _ _ _ _
   have HW:=Lib.hid h4;have HM:=Lib.hid mA;have HR:=Lib.hid hr0;clear h4 m4 m2 m1 h1 h2 mA hr0;go_wp2_with fail;refine (pick_c (HW.out.mv (HR.out _) (fun _ _ h=>h)) 6 (by decide) (by decide)).mono ?_;rintro e w5 ⟨rfl,h5,m5⟩;obtain ⟨j,W3,hj⟩:∃ j W3,W2.pick 6=(j,W3):=⟨_,_,rfl⟩;rw [hj] at h5 hwp hlp ⊢;simp only at h5 hwp hlp ⊢;have q:w5.cell? ⟨wc.heap.size,j,none⟩=some (.string (sepT j)):=by
    have hb:w5.heap[wc.heap.size]?=some (.cells sepRow 9 (0,0)):=by
     rw [m5.block wc.heap.size (by rw [World.size_alloc];omega) (by rw [Lab.ext_ge (Nat.le_refl _)];decide)];exact heap_alloc_new wc _
    exact (blk_cell hb j).trans (sep_get j hlp)
   have hsp:=hwp.size;have hlp2:=hwp.line_le;rw [show (⟨#[]⟩:ByteArray).size=0 from rfl] at hsp hlp2;have hsep:(sepT j).size≤10:=by match j,hlp with | 0,_=>decide | 1,_=>decide | 2,_=>decide | 3,_=>decide | 4,_=>decide | 5,_=>decide
   have hp2:W3.text.size≤1000000000:=by omega
   have hp3:W3.line≤1000000000:=by omega
   have hj6:(j:Int) < 6:=by omega
   go_wp2_with fail
   refine (put_c h5 _ (by omega) hp2 hp3).mono ?_;rintro e w6 ⟨rfl,h6,m6⟩;have hfin:=hwa.trans (hwp.trans (Wrote.put W3 (sepT j)));rw [empty_app] at hfin;have hbad:(W3.put (sepT j)).bad=false→KeySp s K∧0 < s.size∧noKw s:=fun e=>by
    have e2:=hwp.bad ((Wrote.put W3 (sepT j)).bad e);exact ⟨hkk e2,(hx (hw4.bad e2)).2⟩
   have mB:=((HM.out.trans ((HR.out _).mono (M':=(·=40)) (fun _ h=>h.elim)) (fun _ h=>h)).trans m5 (fun _ h=>h)).trans m6 (fun _ h=>h);have HF:=Lib.hid (aI hfin (aI hbad mB));clear hfin hbad mB m5 m6 h5;go_wp2;go_end0;exact ⟨rfl,_,K,j,_,h6,HF.out.1,hlp,hks,HF.out.2.1,HF.out.2.2⟩
end
def q5:ByteArray:=⟨#[34,39,92,36]⟩
def escC (c:UInt8):List UInt8:=if c.toNat=10 then [92,110] else if c.toNat=9 then [92,116] else if c.toNat=34 ∨ c.toNat=92 then [92,c] else [c]
def escPre (s:ByteArray) (k:Nat):ByteArray:=⟨((s.data.toList.take k).flatMap escC).toArray⟩
def escT (s:ByteArray):ByteArray:=⟨(s.data.toList.flatMap escC).toArray⟩
def escOk (c:Nat):Prop:=c=10 ∨ c=9 ∨ (32≤c∧c≤126∧c ≠ 36)
theorem escC_len (c:UInt8):1≤(escC c).length∧(escC c).length≤2:=by
 unfold escC
 split
 ·simp
 ·split
  ·simp
  ·split <;> simp
theorem escPre_succ (s:ByteArray) (k:Nat) (hk:k < s.size):escPre s (k + 1)=escPre s k ++ ⟨(escC (s[k]'hk)).toArray⟩:=by
 have hl:k < s.data.toList.length:=by rw [data_length];exact hk
 unfold escPre;rw [List.take_succ_eq_append_getElem hl,List.flatMap_append];apply ByteArray.ext;rw [ByteArray.data_append];simp;rfl
theorem escPre_all (s:ByteArray):escPre s s.size=escT s:=by
 unfold escPre escT;rw [List.take_of_length_le (by rw [data_length];exact Nat.le_refl _)]
inductive TxtSp (s:ByteArray) (li:Bool):ByteArray→Prop
 | blk (h:Blk s) (hl:li=false):TxtSp s li (⟨#[40]⟩ ++ s ++ ⟨#[41,10]⟩)
 | sq (h:Plain s q5):TxtSp s li (⟨#[39]⟩ ++ s ++ ⟨#[39]⟩)
 | bare (h:Bare s) (hl:li=false):TxtSp s li s
 | dq (h:∀ i,i < s.size→escOk (byteAt s i)):TxtSp s li (⟨#[34]⟩ ++ escT s ++ ⟨#[34]⟩)
theorem ext_one (s:ByteArray) (k:Nat) (hk:k < s.size):s.extract k (k + 1)=⟨#[s[k]'hk]⟩:=by
 have hsz:(s.extract k (k + 1)).size=1:=by simp;omega
 refine ByteArray.ext_getElem (by rw [hsz];rfl) fun i h1 h2=>?_
 obtain rfl:i=0:=by omega
 rw [ByteArray.getElem_extract];rfl
section
variable {lab lab1:Lab} {w w1:World} {b:Nat} {W W1 W2:CW} {T T2:ByteArray}
def Dq (lab:Lab) (b:Nat) (W1:CW) (s:ByteArray) (w0 w:World) (k:Nat) (T:ByteArray):Prop :=
 ∃ x,WAt lab w b (W1.flag x)∧Mv (·=40) w0 lab w lab∧T.size≤2 * k∧(x=false→W1.bad=false∧T=escPre s k∧∀ i,i < k→escOk (byteAt s i))
theorem Dq.step {s:ByteArray} {w0:World} {k:Nat} (h:Dq lab b W1 s w0 w k T) (hk:k < s.size) (c:UInt8) (hc:(s[k]'hk)=c) (he:escOk c.toNat) (E:ByteArray) (hE:E=⟨(escC c).toArray⟩):Dq lab b W1 s w0 w (k + 1) (T ++ E):=by
 obtain ⟨x,h1,h2,h3,h4⟩:=h;have hz:E.size≤2:=by rw [hE];exact (escC_len c).2
 refine ⟨x,h1,h2,by rw [bsa];omega,fun hx=>?_⟩;obtain ⟨h5,h6,h7⟩:=h4 hx;refine ⟨h5,by rw [escPre_succ s k hk,hc,h6,hE],fun i hi=>?_⟩;rcases Nat.lt_or_eq_of_le (Nat.le_of_lt_succ hi) with h | h
 ·exact h7 i h
 ·rw [h,← byteAt_get s k hk,hc];exact he
theorem Dq.bad {s:ByteArray} {w0:World} {k:Nat} (h:Dq lab b W1 s w0 w k T) (E:ByteArray) (hE:E.size≤2):Dq lab b W1 s w0 (w.setCell ⟨b,3,none⟩ (.bool true)) (k + 1) (T ++ E):=by
 obtain ⟨x,h1,h2,h3,h4⟩:=h;obtain ⟨h5,h6⟩:=h1.flag true;exact ⟨true,h5,h2.trans h6 (fun _ h=>h),by rw [bsa];omega,fun h=>by cases h⟩
theorem Dq.f3 {s:ByteArray} {w0:World} {k:Nat} (h:Dq lab b W1 s w0 w k T):w.frozen? ⟨b,3,none⟩=false:=by
 obtain ⟨x,h1,_⟩:=h;exact h1.f3
theorem Dq.c3 {s:ByteArray} {w0:World} {k:Nat} (h:Dq lab b W1 s w0 w k T):∃ x,w.cell? ⟨b,3,none⟩=some (.bool x):=by
 obtain ⟨x,h1,_⟩:=h;exact ⟨_,h1.c3⟩
set_option maxRecDepth 100000 in
set_option maxHeartbeats 8000000 in
theorem words_c (h:WAt lab w b W) (s:ByteArray) (li:Bool) (hs:s.size≤400000) (ht:W.text.size≤900000000) (hl:W.line≤900000000):Calls Tryz.prog 45 #[.pointer (some ⟨b,0,none⟩),.string s,.bool li] w fun e w'=>e=.returned (.tuple #[])∧∃ W' T lab',WAt lab' w' b W'∧Wrote W W' T∧T.size≤2 * s.size + 3∧(W'.bad=false→TxtSp s li T)∧Mv (·=40) w lab w' lab':=by
 have hw0:=Wrote.pick W 4;have hlt:=pick_lt W 4 (by decide);go_enter Tryz.func45,Tryz.ntmps45;go_wp2_with fail;refine (pick_c h 4 (by decide) (by decide)).mono ?_;rintro e w1 ⟨rfl,h1,m1⟩;obtain ⟨k,W1,hkW⟩:∃ k W1,W.pick 4=(k,W1):=⟨_,_,rfl⟩;rw [hkW] at h1 hw0 hlt ⊢;simp only at h1 hw0 hlt ⊢;have hsz:=hw0.size;have hln:=hw0.line_le;rw [show (⟨#[]⟩:ByteArray).size=0 from rfl] at hsz hln;have HH:=Lib.hid h1;have HM:=Lib.hid m1;clear h1 m1 h;have tr:∀ T,Wrote W (W1.put T) T:=fun T=>by have:=hw0.trans (Wrote.put W1 T);rwa [empty_app] at this
 have TR:=Lib.hid tr;clear tr;have hqb:((⟨#[40]⟩:ByteArray) ++ s ++ ⟨#[41,10]⟩).size=s.size + 3:=by rw [bsa,bsa];show 1 + s.size + 2=_;omega
 have hqs:((⟨#[39]⟩:ByteArray) ++ s ++ ⟨#[39]⟩).size=s.size + 2:=by rw [bsa,bsa];show 1 + s.size + 1=_;omega
 have g1:¬ 9223372036854775807 < 1 + s.size:=by omega
 have g2:¬ 9223372036854775807 < 1 + s.size + 1:=by omega
 have g3:¬ 9223372036854775807 < 1 + s.size + 2:=by omega
 go_upto_region 16 with fail
 go_cut [72] from 73 to 83 (fun s72 wx=>∃ z,s72=.bool z∧(z=true→Blk s∧li=false)∧wx=w1)
 case first =>
  by_cases hk1:k=1
  ·have e1:((k:Int) == 1)=true:=beq_iff_eq.2 (by omega);clear hk1
   cases li with
   | false =>
    go_wp2_with fail
    refine (confBlock_c s (by omega)).mono ?_;rintro e w3 ⟨⟨ok,rfl,hok⟩,rfl⟩;go_wp2_with fail;go_meet
    case rel=>exact ⟨ok,rfl,fun h=>⟨hok h,trivial⟩,rfl⟩
   | true =>
    go_wp2_with fail
    go_meet
    case rel=>exact ⟨false,rfl,(fun h=>by cases h),rfl⟩
  ·have e1:((k:Int) == 1)=false:=bqf (by omega);go_wp2_with fail;go_meet
   case rel=>exact ⟨false,rfl,(fun h=>by cases h),rfl⟩
 case rest =>
  obtain ⟨z,rfl,hz,hwc⟩:=hcut;have hwc':=hwc.symm;clear hwc;subst hwc'
  cases z with
  | true =>
   obtain ⟨hB,rfl⟩:=hz rfl;go_wp2_with fail;have hp1:((⟨#[40]⟩:ByteArray) ++ s ++ ⟨#[41,10]⟩).size≤1000000:=by omega
   refine (put_c HH.out _ hp1 (by omega) (by omega)).mono ?_;rintro e w4 ⟨rfl,h4,m4⟩;go_wp2;go_end0;exact ⟨rfl,_,_,_,h4,TR.out _,by omega,fun _=>.blk hB rfl,HM.out.trans m4 (fun _ h=>h)⟩
  | false =>
   clear hz;go_upto_region 18 with fail
   go_cut [88] from 89 to 95 (fun s88 wx=>∃ z,s88=.bool z∧(z=true→Plain s q5)∧∃ n,wx=w1.drewN n)
   case first =>
    by_cases hk1:k=2
    ·have e1:((k:Int) == 2)=true:=beq_iff_eq.2 (by omega);clear hk1;go_wp2_with fail;refine (confPlain_c s q5 (by omega) (by decide)).mono ?_;rintro e w3 ⟨⟨ok,rfl,hok⟩,hn⟩;go_wp2_with fail;go_meet
     case rel=>exact ⟨ok,rfl,hok,hn⟩
    ·have e1:((k:Int) == 2)=false:=bqf (by omega);go_wp2_with fail;go_meet
     case rel=>exact ⟨false,rfl,(fun h=>by cases h),0,rfl⟩
   case rest =>
    obtain ⟨z,rfl,hz,n,hwc⟩:=hcut;have h3:=HH.out.mv ((Mv.refl (fun _=>False) w1 lab).drewN n) (fun _ _ h=>h);have m3:=HM.out.trans ((Mv.refl (·=40) w1 lab).drewN n) (fun _ h=>h);rw [← hwc] at h3 m3;clear hwc
    cases z with
    | true =>
     have hP:=hz rfl;go_wp2_with fail;have hp1:((⟨#[39]⟩:ByteArray) ++ s ++ ⟨#[39]⟩).size≤1000000:=by omega
     refine (put_c h3 _ hp1 (by omega) (by omega)).mono ?_;rintro e w4 ⟨rfl,h4,m4⟩;go_wp2;go_end0;exact ⟨rfl,_,_,_,h4,TR.out _,by omega,fun _=>.sq hP,m3.trans m4 (fun _ h=>h)⟩
    | false =>
     clear hz;go_upto_region 20 with fail
     go_cut [100] from 101 to 111 (fun s100 wx=>∃ z,s100=.bool z∧(z=true→Bare s∧li=false)∧∃ lab1,WAt lab1 wx b W1∧Mv (·=40) w lab wx lab1)
     case first =>
      by_cases hk1:k=3
      ·have e1:((k:Int) == 3)=true:=beq_iff_eq.2 (by omega);clear hk1
       cases li with
       | false =>
        go_wp2_with fail
        refine (confBare_c s (by omega) _).mono ?_;rintro e w5 ⟨⟨ok,rfl,hok⟩,hb5⟩;have m5:=Mv.below (M:=(·=40)) hb5 lab 45;have h5:=h3.mv (Mv.below (M:=fun _=>False) hb5 lab 45) (fun _ _ h=>h);go_wp2_with fail;go_meet
        case rel=>exact ⟨ok,rfl,(fun h=>⟨hok h,trivial⟩),_,h5,m3.trans m5 (fun _ h=>h)⟩
       | true =>
        go_wp2_with fail
        go_meet
        case rel=>exact ⟨false,rfl,(fun h=>by cases h),_,h3,m3⟩
      ·have e1:((k:Int) == 3)=false:=bqf (by omega);go_wp2_with fail;go_meet
       case rel=>exact ⟨false,rfl,(fun h=>by cases h),_,h3,m3⟩
     case rest =>
      obtain ⟨z,rfl,hz,lab1,h5,m5⟩:=hcut
      cases z with
      | true =>
       obtain ⟨hB,rfl⟩:=hz rfl;go_wp2_with fail;refine (put_c h5 s (by omega) (by omega) (by omega)).mono ?_;rintro e w6 ⟨rfl,h6,m6⟩;go_wp2;go_end0;exact ⟨rfl,_,_,_,h6,TR.out _,by omega,fun _=>.bare hB rfl,m5.trans m6 (fun _ h=>h)⟩
      | false =>
       clear hz h3 m3;have hd0:Dq lab1 b W1 s wc wc 0 { data:=#[] }:=⟨W1.bad,h5,Mv.refl _ _ _,Nat.zero_le _,fun hx=>⟨hx,by unfold escPre;simp,fun i hi=>absurd hi (Nat.not_lt_zero i)⟩⟩;have HD:=Lib.hid hd0;have HM5:=Lib.hid m5;clear h5 m5 hd0;go_wp2_with fail;go_loopw [7,8] (fun o i wr=>∃ (k:Nat) (T:ByteArray),k≤s.size∧o=.string T∧i=.int .i64 k∧Dq lab1 b W1 s wc wr k T) (fun _ i _=>s.size - (RowKit.intOf i).toNat)
       case atStart=>exact ⟨0,_,Nat.zero_le _,rfl,rfl,HD.out⟩
       case round =>
        obtain ⟨k,T,hk,rfl,rfl,hd⟩:=hrel;have f3:=hd.f3;obtain ⟨xb,c3⟩:=hd.c3;have hT:T.size≤2 * k:=by obtain ⟨_,_,_,h3,_⟩:=hd;exact h3
        have g4:¬ 9223372036854775807 < T.size + 2:=by omega
        have g5:¬ 9223372036854775807 < T.size + 1:=by omega
        have HDQ:=Lib.hid hd;clear hd;by_cases hlt:k < s.size
        ·have h1:(k:Int) < (s.size:Int):=by omega
         obtain ⟨c,hc⟩:∃ c,(s[k]'hlt)=c:=⟨_,rfl⟩;have hx1:s.extract k (k + 1)=⟨#[c]⟩:=by rw [ext_one s k hlt,hc]
         have stp:∀ E:ByteArray,escOk c.toNat→E=⟨(escC c).toArray⟩→Dq lab1 b W1 s wc wr (k + 1) (T ++ E):=fun E h1 h2=>HDQ.out.step hlt c hc h1 E h2
         have ST:=Lib.hid stp;clear stp;by_cases c10:c.toNat=10
         ·have e10:((c.toNat:Int) == 10)=true:=beq_iff_eq.2 (by omega);have HE:=Lib.hid (ST.out ⟨#[92,110]⟩ (by unfold escOk;omega) (by unfold escC;rw [if_pos c10]));clear c10;go_wp2;go_roundw
          case rel=>exact ⟨k + 1,_,by omega,rfl,by go_num,HE.out⟩
          case measure=>simp [RowKit.intOf];omega
         have e10:((c.toNat:Int) == 10)=false:=bqf (by omega);by_cases c9:c.toNat=9
         ·have e9:((c.toNat:Int) == 9)=true:=beq_iff_eq.2 (by omega);have HE:=Lib.hid (ST.out ⟨#[92,116]⟩ (by unfold escOk;omega) (by unfold escC;rw [if_neg c10,if_pos c9]));clear c10 c9;go_wp2;go_roundw
          case rel=>exact ⟨k + 1,_,by omega,rfl,by go_num,HE.out⟩
          case measure=>simp [RowKit.intOf];omega
         have e9:((c.toNat:Int) == 9)=false:=bqf (by omega);by_cases c34:c.toNat=34
         ·have e34:((c.toNat:Int) == 34)=true:=beq_iff_eq.2 (by omega);have HE:=Lib.hid (ST.out (⟨#[92]⟩ ++ ⟨#[c]⟩) (by unfold escOk;omega) (by unfold escC;rw [if_neg c10,if_neg c9,if_pos (.inl c34)];rfl));clear c10 c9 c34;go_wp2;go_roundw
          case rel=>exact ⟨k + 1,_,by omega,rfl,by go_num,HE.out⟩
          case measure=>simp [RowKit.intOf];omega
         have e34:((c.toNat:Int) == 34)=false:=bqf (by omega);by_cases c92:c.toNat=92
         ·have e92:((c.toNat:Int) == 92)=true:=beq_iff_eq.2 (by omega);have HE:=Lib.hid (ST.out (⟨#[92]⟩ ++ ⟨#[c]⟩) (by unfold escOk;omega) (by unfold escC;rw [if_neg c10,if_neg c9,if_pos (.inr c92)];rfl));clear c10 c9 c34 c92;go_wp2;go_roundw
          case rel=>exact ⟨k + 1,_,by omega,rfl,by go_num,HE.out⟩
          case measure=>simp [RowKit.intOf];omega
         have e92:((c.toNat:Int) == 92)=false:=bqf (by omega);have hbd0:Dq lab1 b W1 s wc (wr.setCell ⟨b,3,none⟩ (.bool true)) (k + 1) T:=by
          have:=HDQ.out.bad ByteArray.empty (by decide);rwa [ByteArray.append_empty] at this
         have HB:=Lib.hid hbd0;clear hbd0;by_cases c32:c.toNat < 32
         ·have e32:decide ((c.toNat:Int) < 32)=true:=decide_eq_true (by omega);clear c10 c9 c34 c92 c32;go_wp2;go_roundw
          case rel=>exact ⟨k + 1,_,by omega,rfl,by go_num,HB.out⟩
          case measure=>simp [RowKit.intOf];omega
         have e32:decide ((c.toNat:Int) < 32)=false:=decide_eq_false (by omega);by_cases c126:126 < c.toNat
         ·have e126:decide ((126:Int) < (c.toNat:Int))=true:=decide_eq_true (by omega);clear c10 c9 c34 c92 c32 c126;go_wp2;go_roundw
          case rel=>exact ⟨k + 1,_,by omega,rfl,by go_num,HB.out⟩
          case measure=>simp [RowKit.intOf];omega
         have e126:decide ((126:Int) < (c.toNat:Int))=false:=decide_eq_false (by omega);by_cases c36:c.toNat=36
         ·have e36:((c.toNat:Int) == 36)=true:=beq_iff_eq.2 (by omega);clear c10 c9 c34 c92 c32 c126 c36;go_wp2;go_roundw
          case rel=>exact ⟨k + 1,_,by omega,rfl,by go_num,HB.out⟩
          case measure=>simp [RowKit.intOf];omega
         have e36:((c.toNat:Int) == 36)=false:=bqf (by omega);have HE:=Lib.hid (ST.out ⟨#[c]⟩ (by unfold escOk;omega) (by unfold escC;rw [if_neg c10,if_neg c9,if_neg (by omega)]));clear c10 c9 c34 c92 c32 c126 c36;go_wp2;go_roundw
         case rel=>exact ⟨k + 1,_,by omega,rfl,by go_num,HE.out⟩
         case measure=>simp [RowKit.intOf];omega
        ·have hke:k=s.size:=by omega
         subst hke;obtain ⟨x,h6,m6,_,h7⟩:=HDQ.out;have hqd:((⟨#[34]⟩:ByteArray) ++ T ++ ⟨#[34]⟩).size=T.size + 2:=by rw [bsa,bsa];show 1 + T.size + 1=_;omega
         have g6:¬ 9223372036854775807 < 1 + T.size:=by omega
         have g7:¬ 9223372036854775807 < 1 + T.size + 1:=by omega
         have H7:=Lib.hid h7;have HM6:=Lib.hid (HM5.out.trans m6 (fun _ h=>h));have hwf:=Lib.hid (hw0.trans (Wrote.flag W1 x (fun e=>(h7 e).1)));clear h7 m6;go_wp2_with fail;have hp1:((⟨#[34]⟩:ByteArray) ++ T ++ ⟨#[34]⟩).size≤1000000:=by omega
         have hp2:(W1.flag x).text.size≤1000000000:=by show W1.text.size≤_;omega
         have hp3:(W1.flag x).line≤1000000000:=by show W1.line≤_;omega
         refine (put_c h6 _ hp1 hp2 hp3).mono ?_;rintro e w9 ⟨rfl,h9,m9⟩;have hwr:=hwf.out.trans (Wrote.put (W1.flag x) ((⟨#[34]⟩:ByteArray) ++ T ++ ⟨#[34]⟩));rw [empty_app,empty_app] at hwr;have hbd:((W1.flag x).put ((⟨#[34]⟩:ByteArray) ++ T ++ ⟨#[34]⟩)).bad=false→TxtSp s li ((⟨#[34]⟩:ByteArray) ++ T ++ ⟨#[34]⟩):=fun e=>by
          obtain ⟨_,h2,h3⟩:=H7.out ((Wrote.put (W1.flag x) ((⟨#[34]⟩:ByteArray) ++ T ++ ⟨#[34]⟩)).bad e);rw [h2,escPre_all];exact .dq h3
         have HR:=Lib.hid (aI hwr hbd);have HMF:=Lib.hid (HM6.out.trans m9 (fun _ h=>h));clear hwr hbd m9;go_wp2;go_end0;exact ⟨rfl,_,_,_,h9,HR.out.1,by omega,HR.out.2,HMF.out⟩
end
theorem decB_small (n:Nat) (h:n≤9223372036854775807):0 < (decB n).size∧(decB n).size≤19:=by
 have:=decS_len n 18 (by omega);simpa [decB,ByteArray.size] using this
set_option maxRecDepth 100000 in
set_option maxHeartbeats 1000000 in
theorem Decimal_big (n:Nat) (hn:n≤9223372036854775807) (w:World):Calls Tryz.prog 18 #[.int .i64 n] w fun e w'=>e=.returned (.string (decB n))∧Below w.heap.size w w':=by
 go_enter Tryz.func18,Tryz.ntmps18;go_wp2_with fail;go_loopw [0,3] (fun a s wr=>∃ (m:Nat) (t:ByteArray),m≤n∧a=.int .i64 m∧s=.string t∧decS n=decS m ++ t.data.toList∧Below w.heap.size w wr) (fun a _ _=>(RowKit.intOf a).toNat)
 case atStart=>exact ⟨n,{ data:=#[] },Nat.le_refl _,rfl,rfl,by simp,Below.refl _ _⟩
 case round =>
  obtain ⟨m,t,hm,rfl,rfl,hd,hb⟩:=hrel;have hl:=(decS_len n 18 (by omega)).2;rw [hd,List.length_append,data_length] at hl;have ht:¬ 9223372036854775807 < 1 + t.size:=by omega
  have HD:=Lib.hid hd;clear hd hl;by_cases h9:m≤9
  ·have e1:decide ((9:Int) < (m:Int))=false:=decide_eq_false (by omega);have hcv:=conv_digit wr m h9;obtain ⟨c,hc⟩:∃ c,c=UInt8.ofNat (48 + m):=⟨_,rfl⟩;rw [← hc] at hcv;have HC:=Lib.hid hc;have hm9:(m:Int)≤9:=by omega
   clear hc hm hn;go_wp2;go_ret;refine ⟨?_,hb.alloc hb.size _⟩;have h:=HD.out;have h2:decS m=[c]:=by rw [decS,if_pos h9,HC.out]
   unfold decB;rw [h,h2]
   congr 2
  ·have e1:decide ((9:Int) < (m:Int))=true:=decide_eq_true (by omega);have hcv:=conv_digit wr (m % 10) (by omega);obtain ⟨c,hc⟩:∃ c,c=UInt8.ofNat (48 + m % 10):=⟨_,rfl⟩;rw [← hc] at hcv;have HC:=Lib.hid hc;have e2:Int.tmod (m:Int) 10=((m % 10:Nat):Int):=rfl;have e3:Int.tdiv (m:Int) 10=((m / 10:Nat):Int):=rfl;have e4:((m % 10:Nat):Int)≤9:=by omega
   have e5:((m / 10:Nat):Int)≤922337203685477580:=by omega
   have e6:((m % 10:Nat):Int)=(m:Int) % 10:=by omega
   rw [e6] at hcv e2 e4;have e7:((m / 10:Nat):Int)=(m:Int) / 10:=by omega
   rw [e7] at e3 e5;clear e6 e7;have HM:=Lib.hid (aI hm h9);have hmx:(m:Int)≤9223372036854775807:=by omega
   clear hc hm hn h9;go_wp2;go_roundw
   case rel =>
    have h2:decS m=decS (m / 10) ++ [c]:=by rw [decS,if_neg HM.out.2,HC.out]
    refine ⟨m / 10,⟨#[c]⟩ ++ t,by have:=HM.out.1;omega,by go_num,rfl,?_,hb.alloc hb.size _⟩;rw [HD.out,h2,List.append_assoc,ByteArray.data_append,Array.toList_append]
   case measure=>have:=HM.out.2;simp [RowKit.intOf];omega
set_option maxRecDepth 100000 in
theorem Decimal_neg (n:Int) (hn:n < 0) (hm:-9223372036854775808≤n) (w:World):Calls Tryz.prog 18 #[.int .i64 n] w fun e w'=>(∃ t:ByteArray,e=.returned (.string t)∧t.size≤1)∧Below w.heap.size w w':=by
 have e1:decide ((9:Int) < n)=false:=decide_eq_false (by omega);obtain ⟨c,hc⟩:∃ c:UInt8,(c.toNat:Int)=(48 + n) % 256:=⟨UInt8.ofNat ((48 + n) % 256).toNat,by rw [UInt8.toNat_ofNat'];omega⟩;have hcv:=conv_byte w c;rw [hc] at hcv;have hx:-9223372036854775808≤48 + n:=by omega
 have hx2:48 + n≤9223372036854775807:=by omega
 go_enter Tryz.func18,Tryz.ntmps18;go_wp2_with fail;go_loopw [0,3] (fun a s wr=>a=.int .i64 n∧s=.string { data:=#[] }∧wr=w) (fun _ _ _=>0)
 case atStart=>exact ⟨rfl,rfl,rfl⟩
 case round =>
  obtain ⟨rfl,rfl,rfl⟩:=hrel;go_wp2;go_ret;exact ⟨⟨_,rfl,Nat.le_of_eq (by rw [bsa];rfl)⟩,(Below.refl _ _).alloc (Nat.le_refl _) _⟩
def upB (c:UInt8):UInt8:=if 97≤c.toNat∧c.toNat≤122 then c - 32 else c
def upPre (s:ByteArray) (k:Nat):ByteArray:=⟨((s.data.toList.map upB).take k).toArray⟩
theorem upPre_size (s:ByteArray) (k:Nat):(upPre s k).size≤k:=by
 show (((s.data.toList.map upB).take k).toArray).size≤k
 simp;omega
theorem upPre_succ (s:ByteArray) (k:Nat) (hk:k < s.size) (c:UInt8) (hc:c=upB (s[k]'hk)):upPre s (k + 1)=upPre s k ++ ⟨#[c]⟩:=by
 have hl:k < (s.data.toList.map upB).length:=by
  rw [List.length_map,data_length];exact hk
 unfold upPre;rw [List.take_succ_eq_append_getElem hl];have e:(s.data.toList.map upB)[k]=c:=by
  rw [hc];exact List.getElem_map upB
 rw [e];apply ByteArray.ext;rw [ByteArray.data_append];simp
def upAll (s:ByteArray):ByteArray:=⟨(s.data.toList.map upB).toArray⟩
set_option maxRecDepth 100000 in
set_option maxHeartbeats 2000000 in
theorem parseUpper_c (s:ByteArray) (hs:s.size≤2147483647) (w:World):Calls Tryz.prog 51 #[.string s] w fun e w'=>e=.returned (.string (upAll s))∧Below w.heap.size w w':=by
 go_enter Tryz.func51,Tryz.ntmps51;go_wp2_with fail;go_loopw [3,4] (fun o i wr=>∃ k:Nat,k≤s.size∧o=.string (upPre s k)∧i=.int .i64 k∧Below w.heap.size w wr) (fun _ i _=>s.size - (RowKit.intOf i).toNat)
 case atStart=>exact ⟨0,Nat.zero_le _,by unfold upPre;simp,rfl,Below.refl _ _⟩
 case round =>
  obtain ⟨k,hk,rfl,rfl,hb⟩:=hrel;by_cases hlt:k < s.size
  ·have h1:(k:Int) < (s.size:Int):=by omega
   have hz:=upPre_size s k;have ht:¬ 9223372036854775807 < (upPre s k).size + 1:=by omega
   obtain ⟨b,hbb⟩:∃ b,b=s[k]'hlt:=⟨_,rfl⟩;have hb1:(s[k]'hlt)=b:=hbb.symm;by_cases hu:97≤b.toNat∧b.toNat≤122
   ·have e1:decide ((97:Int)≤(b.toNat:Int))=true:=decide_eq_true (by omega);have e2:decide ((b.toNat:Int)≤122)=true:=decide_eq_true (by omega);have hcv:=conv_byte wr (b - 32);have e3:((b - 32).toNat:Int)=(b.toNat:Int) - 32:=by rw [UInt8.toNat_sub_of_le _ _ (by rw [UInt8.le_iff_toNat_le];show 32≤b.toNat;omega)];show ((b.toNat - 32:Nat):Int)=_;omega
    rw [e3] at hcv;have hp:=upPre_succ s k hlt (b - 32) (by rw [hb1,upB,if_pos hu]);have HP:=Lib.hid hp;clear hp e3 hbb;go_wp2;go_roundw
    case rel=>exact ⟨k + 1,by omega,by rw [HP.out],by go_num,hb.alloc hb.size _⟩
    case measure=>simp [RowKit.intOf];omega
   ·have hp:=upPre_succ s k hlt b (by rw [hb1,upB,if_neg hu]);have hcv:=conv_byte wr b;have HP:=Lib.hid hp;clear hp hbb;by_cases h6:97≤b.toNat
    ·have e1:decide ((97:Int)≤(b.toNat:Int))=true:=decide_eq_true (by omega);have e2:decide ((b.toNat:Int)≤122)=false:=decide_eq_false (by omega);go_wp2;go_roundw
     case rel=>exact ⟨k + 1,by omega,by rw [HP.out],by go_num,hb.alloc hb.size _⟩
     case measure=>simp [RowKit.intOf];omega
    ·have e1:decide ((97:Int)≤(b.toNat:Int))=false:=decide_eq_false (by omega);go_wp2;go_roundw
     case rel=>exact ⟨k + 1,by omega,by rw [HP.out],by go_num,hb.alloc hb.size _⟩
     case measure=>simp [RowKit.intOf];omega
  ·have hke:k=s.size:=by omega
   subst hke;have hfull:upPre s s.size=upAll s:=by
    unfold upPre upAll;rw [List.take_of_length_le (by rw [List.length_map,data_length];exact Nat.le_refl _)]
   have HF:=Lib.hid hfull;clear hfull;rw [HF.out];go_wp2;go_ret;exact ⟨rfl,hb⟩
end Go.Cf
