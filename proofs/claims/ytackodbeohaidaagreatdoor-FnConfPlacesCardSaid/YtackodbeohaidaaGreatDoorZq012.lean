/-
  Texts joined: Fq Gw Ry Gt Vi Vj Fr Wu.
-/
import Derived.Test.YtackodbeohaidaaGreatDoorZq010
import Derived.Test.YtackodbeohaidaaGreatDoorZq011
import Derived.BigQuiet
import Derived.WalkLawsBesides
import Derived.Laws.FloatArith
import Derived.KernelRfl
namespace Go.Cf
open Go.RowKit Go.Conc Go.Proofs
def dU:Ieee.Datum→Int
 | .number s m i=>Ieee.signed s m (i + 1074).toNat
 | _=>0
def dFin:Ieee.Datum→Prop
 | .number _ _ i=>-1074≤i
 | _=>False
theorem signed_eq (s:Bool) (m u:Nat):Ieee.signed s m u=(if s then -1 else 1) * ((m:Int) * 2 ^ u):=by
 unfold Ieee.signed;rw [Nat.shiftLeft_eq]
 cases s <;> simp
theorem signed_scale (s:Bool) (m u v:Nat):Ieee.signed s m (u + v)=Ieee.signed s m u * 2 ^ v:=by
 rw [signed_eq,signed_eq,Int.pow_add,← Int.mul_assoc,← Int.mul_assoc,← Int.mul_assoc]
theorem pow2_pos (v:Nat):(0:Int) < 2 ^ v:=Int.pow_pos (by decide)
theorem base_eq {s:Bool} {m:Nat} {i base:Int} (h1:base≤i) (h2:-1074≤base):Ieee.signed s m (i + 1074).toNat=Ieee.signed s m (i - base).toNat * 2 ^ (base + 1074).toNat:=by
 rw [← signed_scale]
 congr 1
 omega
theorem order_cmp {d e:Ieee.Datum} (hd:dFin d) (he:dFin e):d.order e=some (compare (dU d) (dU e)):=by
 cases d with
 | nan=>exact hd.elim
 | infinity=>exact hd.elim
 | number s m i =>
  cases e with
  | nan=>exact he.elim
  | infinity=>exact he.elim
  | number t n j =>
   have hi:-1074≤i:=hd;have hj:-1074≤j:=he;have h1:=base_eq (s:=s) (m:=m) (i:=i) (base:=min i j) (Int.min_le_left _ _) (by omega);have h2:=base_eq (s:=t) (m:=n) (i:=j) (base:=min i j) (Int.min_le_right _ _) (by omega);simp only [Ieee.Datum.order,dU,h1,h2,Option.some.injEq];have hp:=pow2_pos (min i j + 1074).toNat;generalize Ieee.signed s m (i - min i j).toNat=x;generalize Ieee.signed t n (j - min i j).toNat=y;generalize (2:Int) ^ (min i j + 1074).toNat=z at hp;simp only [compare,compareOfLessAndEq];have a1:(x < y) ↔ (x * z < y * z):=by
    constructor
    ·intro h;exact Int.mul_lt_mul_of_pos_right h hp
    ·intro h;exact Int.lt_of_mul_lt_mul_right h (Int.le_of_lt hp)
   have a2:(x=y) ↔ (x * z=y * z):=by
    constructor
    ·intro h;rw [h]
    ·intro h;exact Int.eq_of_mul_eq_mul_right (by omega) h
   by_cases c1:x < y
   ·rw [if_pos c1,if_pos (a1.1 c1)]
   ·rw [if_neg c1,if_neg (fun h=>c1 (a1.2 h))];by_cases c2:x=y
    ·rw [if_pos c2,if_pos (a2.1 c2)]
    ·rw [if_neg c2,if_neg (fun h=>c2 (a2.2 h))]
theorem order_lt {d e:Ieee.Datum} (hd:dFin d) (he:dFin e) (h:d.order e=some .lt):dU d < dU e:=by
 rw [order_cmp hd he] at h;simp only [Option.some.injEq,compare,compareOfLessAndEq] at h
 split at h
 ·assumption
 ·split at h <;> cases h
theorem order_gt {d e:Ieee.Datum} (hd:dFin d) (he:dFin e) (h:d.order e=some .gt):dU e < dU d:=by
 rw [order_cmp hd he] at h;simp only [Option.some.injEq,compare,compareOfLessAndEq] at h
 split at h
 ·cases h
 ·split at h
  ·cases h
  ·omega
theorem order_eq {d e:Ieee.Datum} (hd:dFin d) (he:dFin e):d.order e=some .eq ↔ dU d=dU e:=by
 rw [order_cmp hd he,Option.some.injEq,Int.compare_eq_eq]
theorem read_fin (b:Nat):dFin (FloatKind.f64.format.read b) ∨ (∃ s,FloatKind.f64.format.read b=.infinity s) ∨ (∃ s t,FloatKind.f64.format.read b=.nan s t):=by
 unfold Ieee.Format.read
 dsimp only
 split
 ·exact .inl (by show (-1074:Int)≤Ieee.double.leastPlace;decide)
 ·split
  ·refine .inl ?_;show (-1074:Int)≤Ieee.double.leastPlace + _;have:Ieee.double.leastPlace=-1074:=by decide
   rw [this];omega
  ·split
   ·exact .inr (.inl ⟨_,rfl⟩)
   ·exact .inr (.inr ⟨_,_,rfl⟩)
theorem log2_mul_pow (q t:Nat) (hq:0 < q):(q * 2 ^ t).log2=q.log2 + t:=by
 have hq0:=Nat.pos_iff_ne_zero.1 hq;have h0:q * 2 ^ t ≠ 0:=Nat.pos_iff_ne_zero.1 (Nat.mul_pos hq (Nat.two_pow_pos t));rw [Nat.log2_eq_iff h0];have h1:=Nat.log2_self_le hq0;have h2:q < 2 ^ (q.log2 + 1):=Nat.lt_log2_self;refine ⟨?_,?_⟩
 ·rw [Nat.pow_add];exact Nat.mul_le_mul_right _ h1
 ·rw [show q.log2 + t + 1=q.log2 + 1 + t from by omega,Nat.pow_add];exact Nat.mul_lt_mul_of_pos_right h2 (Nat.two_pow_pos t)
theorem read_rung (neg:Bool) (E kept:Nat) (hE:E≤2045) (hk:kept < 2 ^ 53) (h0:E=0 ∨ 2 ^ 52≤kept):Ieee.double.read (Ieee.double.word neg (E * 2 ^ 52 + kept))=.number neg kept (-1074 + (E:Int)):=by
 have hr:E * 2 ^ 52 + kept < 2047 * 2 ^ 52:=by omega
 have hsw:Ieee.double.signWeight=2 ^ 63:=by decide
 have hbi:Ieee.double.binade=2 ^ 52:=by decide
 have hin:Ieee.double.infRung=2047 * 2 ^ 52:=by decide
 have hlp:Ieee.double.leastPlace=-1074:=by decide
 unfold Ieee.Format.read;rw [hsw,hbi,hin,hlp];have hd:Ieee.double.word neg (E * 2 ^ 52 + kept) / 2 ^ 63 % 2=(if neg then 1 else 0)∧Ieee.double.word neg (E * 2 ^ 52 + kept) % 2 ^ 63=E * 2 ^ 52 + kept:=by
  unfold Ieee.Format.word;rw [hsw];cases neg
  ·simp only [Bool.false_eq_true,if_false];omega
  ·simp only [if_true];omega
 simp only [hd.1,hd.2];have hn:((if neg=true then 1 else 0) == 1)=neg:=by cases neg <;> rfl
 rw [hn];rcases Nat.lt_or_ge (E * 2 ^ 52 + kept) (2 ^ 52) with h | h
 ·rw [if_pos h];have hE0:E=0:=by omega
  subst hE0;simp
 ·rw [if_neg (by omega),if_pos hr];rcases Nat.eq_zero_or_pos E with hE0 | hE0
  ·subst hE0;have e1:(0 * 2 ^ 52 + kept) % 2 ^ 52=kept - 2 ^ 52:=by omega
   have e2:(0 * 2 ^ 52 + kept) / 2 ^ 52=1:=by omega
   rw [e1,e2,show 2 ^ 52 + (kept - 2 ^ 52)=kept from by omega]
  ·have hk2:2 ^ 52≤kept:=by omega
   have e1:(E * 2 ^ 52 + kept) % 2 ^ 52=kept - 2 ^ 52:=by omega
   have e2:(E * 2 ^ 52 + kept) / 2 ^ 52=E + 1:=by omega
   rw [e1,e2,show 2 ^ 52 + (kept - 2 ^ 52)=kept from by omega,show E + 1 - 1=E from by omega]
theorem nearest_exact (neg:Bool) (q t:Nat) (place:Int) (hq:0 < q) (hq2:q < 2 ^ 53) (hp:-1074≤place + t) :
  (place + t + q.log2≤1023∧∃ (E kept:Nat),Ieee.double.read (Ieee.double.nearest neg (q * 2 ^ t) place)=.number neg kept (-1074 + (E:Int))∧kept * 2 ^ E=q * 2 ^ (place + t + 1074).toNat) ∨
  (Ieee.double.read (Ieee.double.nearest neg (q * 2 ^ t) place)=.infinity neg∧1024≤place + t + q.log2):=by
 have hbi:Ieee.double.binade=2 ^ 52:=by decide
 have hin:Ieee.double.infRung=2047 * 2 ^ 52:=by decide
 have hlp:Ieee.double.leastPlace=-1074:=by decide
 have hfb:Ieee.double.fractionBits=52:=rfl;have hql:q.log2≤52:=by
  have:=(Nat.log2_lt (Nat.pos_iff_ne_zero.1 hq)).2 hq2;omega
 have hqlo:2 ^ q.log2≤q:=Nat.log2_self_le (Nat.pos_iff_ne_zero.1 hq);have hqhi:q < 2 ^ (q.log2 + 1):=Nat.lt_log2_self;have hm0:q * 2 ^ t ≠ 0:=Nat.pos_iff_ne_zero.1 (Nat.mul_pos hq (Nat.two_pow_pos t));obtain ⟨last,hlast⟩:∃ last:Int,last=max (place + (q * 2 ^ t).log2 - 52) (-1074):=⟨_,rfl⟩;have hl2:last=max (place + (q.log2 + t:Nat) - 52) (-1074):=by rw [hlast,log2_mul_pow q t hq]
 -- what is kept
 obtain ⟨kept,hkd,hkv⟩:∃ kept:Nat,Ieee.Toward.even.cut neg ((q * 2 ^ t) <<< (place - last).toNat) (last - place).toNat=kept∧∃ v:Nat,(v:Int)=t + place - last∧kept=q * 2 ^ v:=by
  refine ⟨_,rfl,(t + place - last).toNat,by omega,?_⟩;rcases Int.le_total place last with h | h
  ·have e1:(place - last).toNat=0:=by omega
   rw [e1,Nat.shiftLeft_zero];obtain ⟨a,ha⟩:∃ a:Nat,(last - place).toNat=a:=⟨_,rfl⟩;have hat:a≤t:=by omega
   have hv:(t + place - last).toNat=t - a:=by omega
   rw [ha,hv];unfold Ieee.Toward.cut;have hmin:min a ((q * 2 ^ t).log2 + 2)=a:=by rw [log2_mul_pow q t hq];omega
   simp only [hmin,Nat.one_shiftLeft];have hdiv:q * 2 ^ t=(q * 2 ^ (t - a)) * 2 ^ a:=by rw [Nat.mul_assoc,← Nat.pow_add];congr 2;omega
   have h1:q * 2 ^ t / 2 ^ a=q * 2 ^ (t - a):=by rw [hdiv];exact Nat.mul_div_cancel _ (Nat.two_pow_pos a)
   have h2:q * 2 ^ t % 2 ^ a=0:=by rw [hdiv];exact Nat.mul_mod_left _ _
   have hpa:=Nat.two_pow_pos a;have e2:decide (2 ^ a < 2 * 0)=false:=decide_eq_false (by omega);have e3:(2 ^ a == 2 * 0)=false:=bqf (by omega);simp [h1,h2]
  ·have e1:(last - place).toNat=0:=by omega
   rw [e1];have hv:(t + place - last).toNat=t + (place - last).toNat:=by omega
   rw [hv];unfold Ieee.Toward.cut;simp [Nat.shiftLeft_eq,Nat.pow_add,Nat.mul_assoc,Nat.mod_one]
 obtain ⟨v,hv,hkq⟩:=hkv;have hpv:=Nat.two_pow_pos v;have hk53:kept < 2 ^ 53:=by
  rw [hkq];have:q.log2 + 1 + v≤53:=by omega
  calc q * 2 ^ v < 2 ^ (q.log2 + 1) * 2 ^ v:=Nat.mul_lt_mul_of_pos_right hqhi hpv
   _=2 ^ (q.log2 + 1 + v):=(Nat.pow_add 2 _ _).symm
   _≤2 ^ 53:=Nat.pow_le_pow_right (by decide) this
 obtain ⟨E,hE⟩:∃ E:Nat,(last - -1074).toNat=E:=⟨_,rfl⟩;have hk52:E=0 ∨ 2 ^ 52≤kept:=by
  rcases Nat.eq_zero_or_pos E with h | h
  ·exact .inl h
  ·refine .inr ?_;rw [hkq];have:52≤q.log2 + v:=by omega
   calc 2 ^ 52≤2 ^ (q.log2 + v):=Nat.pow_le_pow_right (by decide) this
    _=2 ^ q.log2 * 2 ^ v:=Nat.pow_add 2 _ _
    _≤q * 2 ^ v:=Nat.mul_le_mul_right _ hqlo
 have hnear:Ieee.double.nearest neg (q * 2 ^ t) place=Ieee.double.word neg (min (E * 2 ^ 52 + kept) (2047 * 2 ^ 52)):=by
  unfold Ieee.Format.nearest;rw [if_neg hm0,hlp,hfb,hbi,hin];simp only [];rw [show (max (place + ((q * 2 ^ t).log2:Nat) - (52:Nat)) (-1074):Int)=last from by rw [hlast];rfl,hkd,hE]
 rw [hnear];by_cases ho:E≤2045
 ·refine .inl ⟨by omega,E,kept,?_,?_⟩
  ·rw [Nat.min_eq_left (by omega)];exact read_rung neg E kept ho hk53 hk52
  ·rw [hkq,Nat.mul_assoc,← Nat.pow_add]
   congr 2
   omega
 ·refine .inr ⟨?_,by omega⟩;rw [Nat.min_eq_right (by omega)]
  cases neg <;> decide
def nlT (T:ByteArray):Nat:=nlc T T.size
def VarK (env:List (ByteArray × JV)) (k:ByteArray) (j:JV) (T:ByteArray):Prop:=(k,j) ∈ env∧Bare k∧T=⟨#[36]⟩ ++ k
def frT:Nat→ByteArray
 | 0=>⟨#[48,48,48]⟩
 | 1=>⟨#[49,50,53]⟩
 | 2=>⟨#[50,53,48]⟩
 | 3=>⟨#[51,55,53]⟩
 | 4=>⟨#[53,48,48]⟩
 | 5=>⟨#[54,50,53]⟩
 | 6=>⟨#[55,53,48]⟩
 | _=>⟨#[56,55,53]⟩
def eiT (n:Int):ByteArray:=fltT (if n < 0 then ⟨#[45]⟩ else ⟨#[]⟩) (n.natAbs / 8) (frT (n.natAbs % 8))
def NumT (f:Nat) (T:ByteArray):Prop:=∃ n:Int,-1000000000 < n∧n < 1000000000∧dFin (FloatKind.f64.format.read f)∧dU (FloatKind.f64.format.read f)=n * 2 ^ 1071∧T=eiT n
abbrev Pls:=List (ByteArray × Nat)
def sla (path k:ByteArray):ByteArray:=path ++ ⟨#[47]⟩ ++ k
mutual
def GV (env:List (ByteArray × JV)) (li:Bool) (path:ByteArray) (ln:Nat):JV→Bool→ByteArray→List ByteArray→Pls→Prop
 | .int v,nl,T,U,P=>nl=false∧P=[]∧((U=[]∧IntSp v T) ∨ ∃ k,U=[k]∧VarK env k (.int v) T)
 | .num f,nl,T,U,P=>nl=false∧P=[]∧U=[]∧NumT f T
 | .tr b,nl,T,U,P=>nl=false∧P=[]∧U=[]∧∃ i,i < 6∧T=trT b i
 | .txt t,nl,T,U,P=>P=[]∧((U=[]∧TxtS t li nl T) ∨ (nl=false∧∃ k,U=[k]∧VarK env k (.txt t) T))
 | .arr l,nl,T,U,P=>nl=false∧P=[]∧∃ a mk b Es R,GL env mk true l Es U∧((l=[]∧R=⟨#[]⟩) ∨ (l ≠ []∧∃ tl,R=tlT tl))∧T=⟨#[91]⟩ ++ (sp3 a ++ (Es ++ (R ++ (sp3 b ++ ⟨#[93]⟩))))
 | .map ks l,nl,T,U,P=>nl=false∧∃ a Es,GE false env path (ln + nlT (sp3 a)) ks l Es U P env∧ks.Pairwise (fun x y=>bytesBefore y.data.toList x.data.toList=false∧x ≠ y)∧T=⟨#[123]⟩ ++ (sp3 a ++ (Es ++ ⟨#[125]⟩))
def GL (env:List (ByteArray × JV)) (mk:Nat):Bool→List JV→ByteArray→List ByteArray→Prop
 | _,[],T,U=>T=⟨#[]⟩∧U=[]
 | first,j :: r,T,U=>∃ V R U1 U2 path ln P,GV env true path ln j false V U1 P∧GL env mk false r R U2∧U=U1 ++ U2∧T=(if first then ⟨#[]⟩ else mkT mk) ++ (V ++ R)
def GE (top:Bool) (env:List (ByteArray × JV)) (path:ByteArray) (ln:Nat):List ByteArray→List JV→ByteArray→List ByteArray→Pls→List (ByteArray × JV)→Prop
 | ks,[],T,U,P,envF=>ks=[]∧T=⟨#[]⟩∧U=[]∧P=[]∧envF=env
 | ks,j :: r,T,U,P,envF=>∃ env' k ks' kb Kt q nl V e R U1 U2 P1 P2,ks=k :: ks'∧KeySp k Kt∧noKw k∧k.size≤1000000∧q < 6∧GV env false (sla path k) (ln + nlT (blankT kb ++ (Kt ++ sepT q))) j nl V U1 P1∧e < 7∧(nl=true→e=3) ∧
   (∀ x ∈ env,x.1 ≠ k)∧(top=false→env'=env)∧(∀ x ∈ env',x ∈ env ∨ x=(k,j))∧GE top env' path (ln + nlT (blankT kb ++ ((Kt ++ sepT q) ++ (V ++ endR e)))) ks' r R U2 P2 envF ∧
   U=U1 ++ U2∧P=(sla path k,ln + 1 + nlT (blankT kb)) :: (P1 ++ P2)∧T=blankT kb ++ ((Kt ++ sepT q) ++ (V ++ (endR e ++ R)))
end
theorem nlT_app (a b:ByteArray):nlT (a ++ b)=nlT a + nlT b:=nlc_app a b
theorem nlT_nil:nlT ⟨#[]⟩=0:=rfl
theorem GE.snoc {top:Bool} {path:ByteArray} {k:ByteArray} {j:JV} {kb q e:Nat} {Kt V:ByteArray} {nl:Bool} {U1:List ByteArray} {P1:Pls} {env' envF:List (ByteArray × JV)} (hk:KeySp k Kt) (hkw:noKw k) (hks:k.size≤1000000) (hq:q < 6) (he:e < 7) (hnl:nl=true→e=3)
  (hd:∀ x ∈ envF,x.1 ≠ k) (ht:top=false→env'=envF) (hm:∀ x ∈ env',x ∈ envF ∨ x=(k,j)) :
  ∀ (l:List JV) {ks:List ByteArray} {env:List (ByteArray × JV)} {ln:Nat} {T:ByteArray} {U:List ByteArray} {P:Pls},GE top env path ln ks l T U P envF →
   GV envF false (sla path k) (ln + nlT T + nlT (blankT kb ++ (Kt ++ sepT q))) j nl V U1 P1 →
   GE top env path ln (ks ++ [k]) (l ++ [j]) (T ++ (blankT kb ++ ((Kt ++ sepT q) ++ (V ++ endR e)))) (U ++ U1) (P ++ ((sla path k,ln + nlT T + 1 + nlT (blankT kb)) :: P1)) env'
 | [],ks,env,ln,T,U,P,h,hV=>by
  simp only [GE] at h;obtain ⟨rfl,rfl,rfl,rfl,rfl⟩:=h;rw [nlT_nil,Nat.add_zero] at *;simp only [List.nil_append,GE];refine ⟨env',k,[],kb,Kt,q,nl,V,e,⟨#[]⟩,U1,[],P1,[],rfl,hk,hkw,hks,hq,hV,he,hnl,hd,ht,hm,⟨rfl,rfl,rfl,rfl,rfl⟩,by simp,by simp,?_⟩;rw [empty_app];simp only [show endR e ++ (⟨#[]⟩:ByteArray)=endR e from ByteArray.append_empty]
 | j0 :: r,ks,env,ln,T,U,P,h,hV=>by
  simp only [GE] at h;obtain ⟨env1,k0,ks',kb0,Kt0,q0,nl0,V0,e0,R,Ua,Ub,Pa,Pb,rfl,a1,a2,a3,a4,a5,a6,a7,a8,a9,a10,hr,rfl,rfl,rfl⟩:=h;have hn:nlT (blankT kb0 ++ ((Kt0 ++ sepT q0) ++ (V0 ++ (endR e0 ++ R))))=nlT (blankT kb0 ++ ((Kt0 ++ sepT q0) ++ (V0 ++ endR e0))) + nlT R:=by
   simp only [nlT_app];omega
  rw [hn] at hV ⊢;rw [← Nat.add_assoc] at hV;have ih:=GE.snoc hk hkw hks hq he hnl hd ht hm r hr hV;simp only [List.cons_append,GE];refine ⟨env1,k0,ks' ++ [k],kb0,Kt0,q0,nl0,V0,e0,_,Ua,Ub ++ U1,Pa,_,rfl,a1,a2,a3,a4,a5,a6,a7,a8,a9,a10,ih,by simp [List.append_assoc],?_,?_⟩
  ·simp only [List.append_assoc,Nat.add_assoc]
  ·simp only [ByteArray.append_assoc]
theorem GL.snoc {env:List (ByteArray × JV)} {mk:Nat} {j:JV} {V:ByteArray} {U1:List ByteArray} {path:ByteArray} {ln:Nat} {P:Pls} (hV:GV env true path ln j false V U1 P) :
  ∀ (l:List JV) {first:Bool} {T:ByteArray} {U:List ByteArray},GL env mk first l T U→GL env mk first (l ++ [j]) (T ++ ((if first && l.isEmpty then ⟨#[]⟩ else mkT mk) ++ V)) (U ++ U1)
 | [],first,T,U,h=>by
  simp only [GL] at h;obtain ⟨rfl,rfl⟩:=h;simp only [List.nil_append,GL];refine ⟨V,⟨#[]⟩,U1,[],path,ln,P,hV,⟨rfl,rfl⟩,by simp,?_⟩;rw [empty_app];simp;exact ByteArray.append_empty.symm
 | j0 :: r,first,T,U,h=>by
  simp only [GL] at h;obtain ⟨V0,R,Ua,Ub,p0,l0,P0,h0,hr,rfl,rfl⟩:=h;have ih:=GL.snoc hV r hr;simp only [List.cons_append,GL];refine ⟨V0,_,Ua,Ub ++ U1,p0,l0,P0,h0,ih,by simp,?_⟩;simp only [Bool.false_and,List.isEmpty_cons,Bool.and_false,Bool.false_eq_true,if_false,ByteArray.append_assoc]
mutual
theorem GV.move {env:List (ByteArray × JV)} {li:Bool} (path':ByteArray) (ln':Nat):∀ (j:JV) {path:ByteArray} {ln:Nat} {nl:Bool} {T:ByteArray} {U:List ByteArray} {P:Pls},GV env li path ln j nl T U P→∃ P',GV env li path' ln' j nl T U P'
 | .int v,_,_,_,_,_,_,h=>by simp only [GV] at h ⊢;exact ⟨_,h⟩
 | .num v,_,_,_,_,_,_,h=>by simp only [GV] at h ⊢;exact ⟨_,h⟩
 | .tr v,_,_,_,_,_,_,h=>by simp only [GV] at h ⊢;exact ⟨_,h⟩
 | .txt v,_,_,_,_,_,_,h=>by simp only [GV] at h ⊢;exact ⟨_,h⟩
 | .arr l,_,_,_,_,_,_,h=>by simp only [GV] at h ⊢;exact ⟨_,h⟩
 | .map ks l,_,_,_,_,_,_,h=>by
  simp only [GV] at h ⊢;obtain ⟨h1,a,Es,hE,hp,rfl⟩:=h;obtain ⟨P',hE'⟩:=GE.move path' (ln' + nlT (sp3 a)) l hE;exact ⟨P',h1,a,Es,hE',hp,rfl⟩
theorem GE.move {top:Bool} (path':ByteArray) (ln':Nat):∀ (l:List JV) {env envF:List (ByteArray × JV)} {path:ByteArray} {ln:Nat} {ks:List ByteArray} {T:ByteArray} {U:List ByteArray} {P:Pls},GE top env path ln ks l T U P envF→∃ P',GE top env path' ln' ks l T U P' envF
 | [],_,_,_,_,_,_,_,_,h=>by simp only [GE] at h ⊢;obtain ⟨h1,h2,h3,h4,h5⟩:=h;exact ⟨[],h1,h2,h3,rfl,h5⟩
 | j :: r,_,_,_,_,_,_,_,_,h=>by
  simp only [GE] at h ⊢;obtain ⟨env1,k0,ks',kb0,Kt0,q0,nl0,V0,e0,R,Ua,Ub,Pa,Pb,h1,a1,a2,a3,a4,a5,a6,a7,a8,a9,a10,hr,hU,hP,hT⟩:=h;obtain ⟨Pa',ha⟩:=GV.move (sla path' k0) (ln' + nlT (blankT kb0 ++ (Kt0 ++ sepT q0))) j a5;obtain ⟨Pb',hb⟩:=GE.move path' (ln' + nlT (blankT kb0 ++ ((Kt0 ++ sepT q0) ++ (V0 ++ endR e0)))) r hr;exact ⟨_,env1,k0,ks',kb0,Kt0,q0,nl0,V0,e0,R,Ua,Ub,Pa',Pb',h1,a1,a2,a3,a4,ha,a6,a7,a8,a9,a10,hb,hU,rfl,hT⟩
end
def Asc (s:ByteArray):Prop:=∀ i,i < s.size→byteAt s i < 128
theorem Asc.app {a b:ByteArray} (ha:Asc a) (hb:Asc b):Asc (a ++ b):=fun i hi=>by
 rw [bsa] at hi;rcases Nat.lt_or_ge i a.size with h | h
 ·rw [byteAt_app_left _ _ _ h];exact ha i h
 ·obtain ⟨j,rfl⟩:=Nat.exists_eq_add_of_le h;rw [byteAt_app_right];exact hb j (by omega)
theorem Asc.plain {s nn:ByteArray} (h:Plain s nn):Asc s:=fun i hi=>by have:=h i hi;omega
theorem Asc.bare {s:ByteArray} (h:Bare s):Asc s:=fun i hi=>by
 have:=h.bytes i hi;unfold bareB letB goodB at this;omega
theorem Asc.one (c:UInt8) (h:c.toNat < 128):Asc ⟨#[c]⟩:=fun i hi=>by
 have:i=0:=by have:i < 1:=hi;omega
 subst this;exact h
theorem Asc.blank (k:Nat):Asc (blankT k):=by
 match k with
 | 0=>exact fun i hi=>absurd hi (Nat.not_lt_zero i)
 | 1=>exact fun i hi=>(show ∀ i,i < 2→byteAt (blankT 1) i < 128 by decide) i hi
 | 2=>exact fun i hi=>(show ∀ i,i < 16→byteAt (blankT 2) i < 128 by decide) i hi
 | 3=>exact fun i hi=>(show ∀ i,i < 12→byteAt (blankT 3) i < 128 by decide) i hi
 | 4=>exact fun i hi=>(show ∀ i,i < 1→byteAt (blankT 4) i < 128 by decide) i hi
 | k + 5=>exact fun i hi=>absurd hi (Nat.not_lt_zero i)
theorem Asc.sep (j:Nat) (hj:j < 6):Asc (sepT j):=by
 match j,hj with
 | 0,_=>exact fun i hi=>(show ∀ i,i < 3→byteAt (sepT 0) i < 128 by decide) i hi
 | 1,_=>exact fun i hi=>(show ∀ i,i < 1→byteAt (sepT 1) i < 128 by decide) i hi
 | 2,_=>exact fun i hi=>(show ∀ i,i < 2→byteAt (sepT 2) i < 128 by decide) i hi
 | 3,_=>exact fun i hi=>(show ∀ i,i < 1→byteAt (sepT 3) i < 128 by decide) i hi
 | 4,_=>exact fun i hi=>(show ∀ i,i < 1→byteAt (sepT 4) i < 128 by decide) i hi
 | 5,_=>exact fun i hi=>(show ∀ i,i < 3→byteAt (sepT 5) i < 128 by decide) i hi
theorem Asc.end (e:Nat) (he:e < 5):Asc (endT e):=by
 match e,he with
 | 0,_=>exact fun i hi=>(show ∀ i,i < 1→byteAt (endT 0) i < 128 by decide) i hi
 | 1,_=>exact fun i hi=>(show ∀ i,i < 2→byteAt (endT 1) i < 128 by decide) i hi
 | 2,_=>exact fun i hi=>(show ∀ i,i < 7→byteAt (endT 2) i < 128 by decide) i hi
 | 3,_=>exact fun i hi=>(show ∀ i,i < 2→byteAt (endT 3) i < 128 by decide) i hi
 | 4,_=>exact fun i hi=>(show ∀ i,i < 8→byteAt (endT 4) i < 128 by decide) i hi
theorem Asc.key {k Kt:ByteArray} (h:KeySp k Kt):Asc Kt:=by
 cases h with
 | dq hP=>exact ((Asc.one 34 (by decide)).app (Asc.plain hP)).app (Asc.one 34 (by decide))
 | sq hP=>exact ((Asc.one 39 (by decide)).app (Asc.plain hP)).app (Asc.one 39 (by decide))
 | bare hB=>exact Asc.bare hB
theorem Asc.of_list (l:List UInt8) (h:∀ c ∈ l,c.toNat < 128):Asc ⟨l.toArray⟩:=fun i hi=>by
 have hl:i < l.length:=hi;have:byteAt ⟨l.toArray⟩ i=(l[i]'hl).toNat:=by
  show (l.getD i 0).toNat=_
  rw [List.getD_eq_getElem?_getD,List.getElem?_eq_getElem hl];rfl
 rw [this];exact h _ (List.getElem_mem hl)
theorem Asc.esc {t:ByteArray} (h:∀ i,i < t.size→escOk (byteAt t i)):Asc (escT t):=by
 refine Asc.of_list _ fun c hc=>?_
 obtain ⟨x,hx,hcx⟩:=List.mem_flatMap.1 hc;obtain ⟨i,hi,rfl⟩:=List.getElem_of_mem hx;have hi2:i < t.size:=by rw [data_length] at hi;exact hi
 have hok:=h i hi2;rw [← byteAt_get t i hi2] at hok;have hxl:(t.data.toList[i]'hi).toNat < 128:=by unfold escOk at hok;have:(t.data.toList[i]'hi).toNat=(t[i]'hi2).toNat:=rfl;omega
 unfold escC at hcx
 split at hcx
 ·simp only [List.mem_cons,List.not_mem_nil,or_false] at hcx;rcases hcx with rfl | rfl <;> decide
 ·split at hcx
  ·simp only [List.mem_cons,List.not_mem_nil,or_false] at hcx;rcases hcx with rfl | rfl <;> decide
  ·split at hcx
   ·simp only [List.mem_cons,List.not_mem_nil,or_false] at hcx;rcases hcx with rfl | rfl
    ·decide
    ·exact hxl
   ·simp only [List.mem_cons,List.not_mem_nil,or_false] at hcx;subst hcx;exact hxl
theorem Asc.int {v:Int} {T:ByteArray} (h:IntSp v T):Asc T:=by
 obtain ⟨sg,m,sf,u,rfl,hsf,hn,hb⟩:=h;have hsg:sg=⟨#[]⟩ ∨ sg=⟨#[45]⟩:=by rcases hn with ⟨h,_⟩ | ⟨h,_⟩;exact .inl h;exact .inr h
 refine Asc.app (fun i hi=>?_) ?_
 ·have:=sgdig sg m hsg i hi;omega
 ·rcases hsf.item with ⟨rfl,_⟩ | hI
  ·exact fun i hi=>absurd hi (Nat.not_lt_zero i)
  ·exact hI.asc
noncomputable def canonF (f:Nat):Nat:=Classical.epsilon fun g=>FloatKind.f64.format.order g f=some .eq∧∀ T,NumT f T→FltGives g T
def HasF:Prop:=∀ f T,NumT f T→∃ g,FloatKind.f64.format.order g f=some .eq∧FltGives g T
theorem NumT.uniq {f:Nat} {T T':ByteArray} (h:NumT f T) (h':NumT f T'):T=T':=by
 obtain ⟨n,_,_,_,h1,rfl⟩:=h;obtain ⟨n',_,_,_,h2,rfl⟩:=h';have:n=n':=by
  rw [h1] at h2;exact Int.eq_of_mul_eq_mul_right (by have:=pow2_pos 1071;omega) h2
 rw [this]
theorem canonF_ok (hF:HasF) {f:Nat} {T:ByteArray} (h:NumT f T):FloatKind.f64.format.order (canonF f) f=some .eq∧FltGives (canonF f) T:=by
 obtain ⟨g,h1,h2⟩:=hF f T h;have:=Classical.epsilon_spec (p:=fun g=>FloatKind.f64.format.order g f=some .eq∧∀ T,NumT f T→FltGives g T) ⟨g,h1,fun T' h'=>by rw [← h.uniq h'];exact h2⟩;exact ⟨this.1,this.2 T h⟩
mutual
noncomputable def JV.canon:JV→JV
 | .num f=>.num (canonF f)
 | .arr l=>.arr (canonL l)
 | .map ks l=>.map ks (canonL l)
 | .int n=>.int n
 | .tr b=>.tr b
 | .txt t=>.txt t
noncomputable def canonL:List JV→List JV
 | []=>[]
 | j :: r=>j.canon :: canonL r
end
theorem canonL_nil {l:List JV}:canonL l=[] ↔ l=[]:=by cases l <;> simp [canonL]
noncomputable def cE (env:List (ByteArray × JV)):List (ByteArray × JV):=env.map fun x=>(x.1,x.2.canon)
theorem VarK.sp {env:List (ByteArray × JV)} {k:ByteArray} {j:JV} {T:ByteArray} (h:VarK env k j T):VarSp (cE env) j.canon T:=by
 obtain ⟨h1,h2,rfl⟩:=h;exact ⟨k,List.mem_map.2 ⟨_,h1,rfl⟩,h2,rfl⟩
theorem eiT_sp {n:Int} (h0:-1000000000 < n) (h1:n < 1000000000):∃ (sg:ByteArray) (m:Nat) (F:ByteArray),(sg=⟨#[]⟩ ∨ sg=⟨#[45]⟩)∧m≤1000000000∧F.size=3∧(∀ i,i < F.size→48≤byteAt F i∧byteAt F i≤57)∧eiT n=fltT sg m F:=by
 refine ⟨if n < 0 then ⟨#[45]⟩ else ⟨#[]⟩,n.natAbs / 8,frT (n.natAbs % 8),?_,by omega,?_,?_,rfl⟩
 ·split
  ·exact .inr rfl
  ·exact .inl rfl
 ·have:n.natAbs % 8 < 8:=Nat.mod_lt _ (by decide);generalize n.natAbs % 8=r at this
  match r,this with
  | 0,_ | 1,_ | 2,_ | 3,_ | 4,_ | 5,_ | 6,_ | 7,_=>rfl
 ·have:n.natAbs % 8 < 8:=Nat.mod_lt _ (by decide);generalize n.natAbs % 8=r at this
  match r,this with
  | 0,_ | 1,_ | 2,_ | 3,_ | 4,_ | 5,_ | 6,_ | 7,_=>decide
theorem NumT.sp (hF:HasF) {f:Nat} {T:ByteArray} (h:NumT f T):FltSp (canonF f) T:=by
 obtain ⟨n,h0,h1,h2,h3,hT⟩:=id h;obtain ⟨sg,m,F,a1,a2,a3,a4,a5⟩:=eiT_sp h0 h1;exact ⟨sg,m,F,a1,a2,a3,a4,hT.trans a5,(canonF_ok hF h).2⟩
mutual
theorem gv_sp (hF:HasF) {env:List (ByteArray × JV)}:∀ (j:JV) {li:Bool} {path:ByteArray} {ln:Nat} {nl:Bool} {T:ByteArray} {U:List ByteArray} {P:Pls},GV env li path ln j nl T U P→SpV (cE env) li j.canon nl T
 | .int v,_,_,_,_,_,_,_,h=>by
  simp only [GV] at h;obtain ⟨h1,_,h⟩:=h;simp only [JV.canon,SpV];rcases h with ⟨_,h⟩ | ⟨k,_,h⟩
  ·exact ⟨h1,.inl h⟩
  ·have:=h.sp;simp only [JV.canon] at this;exact ⟨h1,.inr this⟩
 | .num f,_,_,_,_,_,_,_,h=>by
  simp only [GV] at h;simp only [JV.canon,SpV];exact ⟨h.1,h.2.2.2.sp hF⟩
 | .tr b,_,_,_,_,_,_,_,h=>by
  simp only [GV] at h;simp only [JV.canon,SpV];exact ⟨h.1,h.2.2.2⟩
 | .txt t,_,_,_,_,_,_,_,h=>by
  simp only [GV] at h;obtain ⟨_,h⟩:=h;simp only [JV.canon,SpV];rcases h with ⟨_,h⟩ | ⟨h1,k,_,h⟩
  ·exact .inl h
  ·have:=h.sp;simp only [JV.canon] at this;exact .inr ⟨h1,this⟩
 | .arr l,_,_,_,_,_,_,_,h=>by
  simp only [GV] at h;obtain ⟨h1,_,a,mk,b,Es,R,hl,hR,hT⟩:=h;simp only [JV.canon,SpV];refine ⟨h1,a,mk,b,Es,R,gl_sp hF l hl,?_,hT⟩;rcases hR with ⟨h,hr⟩ | ⟨h,hr⟩
  ·exact .inl ⟨canonL_nil.2 h,hr⟩
  ·exact .inr ⟨fun e=>h (canonL_nil.1 e),hr⟩
 | .map ks l,_,_,_,_,_,_,_,h=>by
  simp only [GV] at h;obtain ⟨h1,a,Es,hE,hp,hT⟩:=h;simp only [JV.canon,SpV];obtain ⟨h2,h3⟩:=ge_sp hF l hE;refine ⟨h1,a,Es,h2,hp,fun k hk x hx=>?_,hT⟩;obtain ⟨y,hy,rfl⟩:=List.mem_map.1 hx;exact h3 k hk y hy
theorem gl_sp (hF:HasF) {env:List (ByteArray × JV)}:∀ (l:List JV) {mk:Nat} {first:Bool} {T:ByteArray} {U:List ByteArray},GL env mk first l T U→SpL (cE env) mk first (canonL l) T
 | [],_,_,_,_,h=>by
  simp only [GL] at h;simp only [canonL,SpL];exact h.1
 | j :: r,_,_,_,_,h=>by
  simp only [GL] at h;obtain ⟨V,R,U1,U2,path,ln,P,hV,hR,_,hT⟩:=h;simp only [canonL,SpL];exact ⟨V,R,gv_sp hF j hV,gl_sp hF r hR,hT⟩
theorem ge_sp (hF:HasF) {env:List (ByteArray × JV)}:∀ (l:List JV) {path:ByteArray} {ln:Nat} {ks:List ByteArray} {T:ByteArray} {U:List ByteArray} {P:Pls} {envF:List (ByteArray × JV)},GE false env path ln ks l T U P envF→SpE (cE env) ks (canonL l) T∧∀ k ∈ ks,∀ x ∈ env,x.1 ≠ k
 | [],_,_,_,_,_,_,_,h=>by
  simp only [GE] at h;simp only [canonL,SpE];obtain ⟨rfl,h2,_⟩:=h;exact ⟨⟨rfl,h2⟩,fun k hk=>by cases hk⟩
 | j :: r,_,_,_,_,_,_,_,h=>by
  simp only [GE] at h;obtain ⟨env1,k0,ks',kb0,Kt0,q0,nl0,V0,e0,R,Ua,Ub,Pa,Pb,rfl,a1,a2,a3,a4,a5,a6,a7,a8,a9,a10,hr,hU,hP,hT⟩:=h;obtain rfl:=a9 trivial;obtain ⟨h1,h2⟩:=ge_sp hF r hr;simp only [canonL,SpE];refine ⟨⟨k0,ks',kb0,Kt0,q0,nl0,V0,e0,R,rfl,a1,a2,a3,a4,gv_sp hF j a5,a6,a7,h1,hT⟩,fun k hk=>?_⟩;rcases List.mem_cons.1 hk with rfl | hk
  ·exact a8
  ·exact h2 k hk
end
theorem Asc.endR (e:Nat) (he:e < 7):Asc (endR e):=by
 match e,he with
 | 0,_=>exact Asc.end 0 (by decide)
 | 1,_=>exact Asc.end 1 (by decide)
 | 2,_=>exact Asc.end 2 (by decide)
 | 3,_=>exact Asc.end 3 (by decide)
 | 4,_=>exact Asc.end 4 (by decide)
 | 5,_=>exact Asc.one 59 (by decide)
 | 6,_=>exact Asc.one 44 (by decide)
theorem Asc.nil:Asc ⟨#[]⟩:=fun i hi=>absurd hi (Nat.not_lt_zero i)
theorem Asc.sp3:∀ a,Asc (Go.Cf.sp3 a)
 | 0=>Asc.nil
 | 1=>Asc.one 32 (by decide)
 | _ + 2=>Asc.one 10 (by decide)
theorem Asc.mkT:∀ a,Asc (Go.Cf.mkT a)
 | 0=>Asc.one 44 (by decide)
 | 1=>fun i hi=>(show ∀ i,i < 2→byteAt (Go.Cf.mkT 1) i < 128 by decide) i hi
 | 2=>Asc.one 10 (by decide)
 | _ + 3=>fun i hi=>(show ∀ i,i < 5→byteAt (⟨#[32,44,10,32,32]⟩) i < 128 by decide) i hi
theorem Asc.tlT:∀ a,Asc (Go.Cf.tlT a)
 | 0=>Asc.one 44 (by decide)
 | 1=>Asc.one 32 (by decide)
 | _ + 2=>Asc.one 10 (by decide)
theorem Asc.txtS {t T:ByteArray} {li nl:Bool} (h:TxtS t li nl T):Asc T:=by
 cases h with
 | blk hb _ =>
  refine ((Asc.one 40 (by decide)).app fun i hi=>?_).app (Asc.one 41 (by decide));rcases Nat.eq_zero_or_pos i with rfl | h0
  ·rw [hb.first];decide
  ·rcases (hb.mid i h0 hi).2 with h | h <;> omega
 | sq hP=>exact ((Asc.one 39 (by decide)).app (Asc.plain hP)).app (Asc.one 39 (by decide))
 | bare hB _=>exact Asc.bare hB
 | dq hP=>exact ((Asc.one 34 (by decide)).app (Asc.esc hP)).app (Asc.one 34 (by decide))
theorem Asc.varK {env:List (ByteArray × JV)} {k:ByteArray} {j:JV} {T:ByteArray} (h:VarK env k j T):Asc T:=by
 obtain ⟨_,h2,rfl⟩:=h;exact (Asc.one 36 (by decide)).app (Asc.bare h2)
theorem Asc.num {f:Nat} {T:ByteArray} (h:NumT f T):Asc T:=by
 obtain ⟨n,h0,h1,_,_,rfl⟩:=h;obtain ⟨sg,m,F,hsg,hm,hF,hd,e⟩:=eiT_sp h0 h1;rw [e];unfold fltT;have h1:Asc (sg ++ decB m):=fun i hi=>by have:=sgdig sg m hsg i hi;omega
 have h2:Asc F:=fun i hi=>by have:=hd i hi;omega
 exact (h1.app (Asc.one 46 (by decide))).app h2
mutual
theorem gv_asc {env:List (ByteArray × JV)}:∀ (j:JV) {li:Bool} {path:ByteArray} {ln:Nat} {nl:Bool} {T:ByteArray} {U:List ByteArray} {P:Pls},GV env li path ln j nl T U P→Asc T
 | .int v,_,_,_,_,_,_,_,h=>by
  simp only [GV] at h;rcases h.2.2 with ⟨_,h⟩ | ⟨k,_,h⟩
  ·exact Asc.int h
  ·exact Asc.varK h
 | .num f,_,_,_,_,_,_,_,h=>by
  simp only [GV] at h;exact Asc.num h.2.2.2
 | .tr b,_,_,_,_,_,_,_,h=>by
  simp only [GV] at h;obtain ⟨_,_,_,i,hi,rfl⟩:=h;intro k hk;exact ((trT_ok b i hi).2.2.2.1 k hk).2.2
 | .txt t,_,_,_,_,_,_,_,h=>by
  simp only [GV] at h;rcases h.2 with ⟨_,h⟩ | ⟨_,k,_,h⟩
  ·exact Asc.txtS h
  ·exact Asc.varK h
 | .arr l,_,_,_,_,_,_,_,h=>by
  simp only [GV] at h;obtain ⟨h1,_,a,mk,b,Es,R,hl,hR,rfl⟩:=h;have hR':Asc R:=by
   rcases hR with ⟨_,rfl⟩ | ⟨_,tl,rfl⟩
   ·exact Asc.nil
   ·exact Asc.tlT tl
  exact (Asc.one 91 (by decide)).app ((Asc.sp3 a).app ((gl_asc l hl).app (hR'.app ((Asc.sp3 b).app (Asc.one 93 (by decide))))))
 | .map ks l,_,_,_,_,_,_,_,h=>by
  simp only [GV] at h;obtain ⟨h1,a,Es,hE,hp,rfl⟩:=h;exact (Asc.one 123 (by decide)).app ((Asc.sp3 a).app ((ge_asc l hE).app (Asc.one 125 (by decide))))
theorem gl_asc {env:List (ByteArray × JV)}:∀ (l:List JV) {mk:Nat} {first:Bool} {T:ByteArray} {U:List ByteArray},GL env mk first l T U→Asc T
 | [],_,_,_,_,h=>by
  simp only [GL] at h;obtain ⟨rfl,_⟩:=h;exact Asc.nil
 | j :: r,mk,first,_,_,h=>by
  simp only [GL] at h;obtain ⟨V,R,U1,U2,path,ln,P,hV,hR,_,rfl⟩:=h;refine Asc.app ?_ ((gv_asc j hV).app (gl_asc r hR))
  cases first
  ·exact Asc.mkT mk
  ·exact Asc.nil
theorem ge_asc {top:Bool}:∀ (l:List JV) {env:List (ByteArray × JV)} {path:ByteArray} {ln:Nat} {ks:List ByteArray} {T:ByteArray} {U:List ByteArray} {P:Pls} {envF:List (ByteArray × JV)},GE top env path ln ks l T U P envF→Asc T
 | [],_,_,_,_,_,_,_,_,h=>by
  simp only [GE] at h;obtain ⟨_,rfl,_⟩:=h;exact Asc.nil
 | j :: r,_,_,_,_,_,_,_,_,h=>by
  simp only [GE] at h;obtain ⟨env1,k0,ks',kb0,Kt0,q0,nl0,V0,e0,R,Ua,Ub,Pa,Pb,rfl,a1,a2,a3,a4,a5,a6,a7,a8,a9,a10,hr,hU,hP,rfl⟩:=h;exact (Asc.blank kb0).app (((Asc.key a1).app (Asc.sep q0 a4)).app ((gv_asc j a5).app ((Asc.endR e0 a6).app (ge_asc r hr))))
end
section
variable {l l2:List JV} {kl kl2:List ByteArray} {T T2:ByteArray} {U U2:List ByteArray} {P P2:Pls} {envF envF2:List (ByteArray × JV)} {path path2:ByteArray} {ln ln2:Nat}
end
attribute [local go_sem ↓] appX_eq
attribute [local go_sem] run_store_flt
structure WroteU (W W':CW) (T:ByteArray) (U:List ByteArray):Prop where
 text:W'.text=W.text ++ T
 bad:W'.bad=false→W.bad=false
 line:W'.line=W.line + nlc T T.size
 known:W'.known=W.known
 nv:W'.nv=W.nv
 vals:W'.vals=W.vals
 used:W'.used=W.used ++ U
 inner:W'.inner=W.inner
 ub:∀ k ∈ U,k.size≤T.size
theorem Wrote.toU {W W':CW} {T:ByteArray} (h:Wrote W W' T):WroteU W W' T []:=⟨h.text,h.bad,h.line,h.known,h.nv,h.vals,by rw [h.used,List.append_nil],h.inner,fun _ h=>nomatch h⟩
theorem WroteU.trans {W W1 W2:CW} {T T2:ByteArray} {U U2:List ByteArray} (h:WroteU W W1 T U) (k:WroteU W1 W2 T2 U2):WroteU W W2 (T ++ T2) (U ++ U2) :=
 ⟨by rw [k.text,h.text,ByteArray.append_assoc],fun e=>h.bad (k.bad e),by rw [k.line,h.line,nlc_app,Nat.add_assoc],k.known.trans h.known,k.nv.trans h.nv,k.vals.trans h.vals,by rw [k.used,h.used,List.append_assoc],k.inner.trans h.inner,fun x hx=>by
  rw [bsa];rcases List.mem_append.1 hx with hx | hx
  ·have:=h.ub x hx;omega
  ·have:=k.ub x hx;omega⟩
theorem WroteU.size {W W1:CW} {T:ByteArray} {U:List ByteArray} (h:WroteU W W1 T U):W1.text.size=W.text.size + T.size:=by rw [h.text,bsa]
theorem WroteU.line_le {W W1:CW} {T:ByteArray} {U:List ByteArray} (h:WroteU W W1 T U):W1.line≤W.line + T.size:=by rw [h.line];have:=nlc_le T T.size;omega
def KVc (j:JV) (c:Array Value):Prop:=∃ n f b s a1 m1 c1 a2 m2 c2,c=ndC j.kind n f b s (.slice a1 m1 c1) (.slice a2 m2 c2)∧(∀ v,j=.int v→n=v∧s=⟨#[]⟩)∧(∀ t,j=.txt t→n=0∧s=t)
def KVs:List JV→List (Array Value)→Prop
 | [],[]=>True
 | j :: r,c :: cs=>KVc j c∧KVs r cs
 | _,_=>False
theorem KVs.len:∀ {l:List JV} {cs:List (Array Value)},KVs l cs→cs.length=l.length
 | [],[],_=>rfl
 | _ :: _,_ :: _,h=>by simp only [KVs] at h;simp [h.2.len]
 | [],_ :: _,h=>by simp [KVs] at h
 | _ :: _,[],h=>by simp [KVs] at h
theorem KVs.get:∀ {l:List JV} {cs:List (Array Value)} {i:Nat} {j:JV},KVs l cs→l[i]?=some j→∃ c,cs[i]?=some c∧KVc j c
 | _ :: _,_ :: _,0,j,h,hj=>by
  simp only [KVs] at h;simp only [List.getElem?_cons_zero,Option.some.injEq] at hj;subst hj;exact ⟨_,rfl,h.1⟩
 | _ :: _,_ :: _,i + 1,j,h,hj=>by
  simp only [KVs] at h;obtain ⟨c,h1,h2⟩:=h.2.get (by simpa using hj);exact ⟨c,by simpa using h1,h2⟩
theorem KVs.app:∀ {l:List JV} {cs:List (Array Value)} {j:JV} {c:Array Value},KVs l cs→KVc j c→KVs (l ++ [j]) (cs ++ [c])
 | [],[],_,_,_,h=>by simpa [KVs] using h
 | _ :: _,_ :: _,_,_,h,h2=>by
  simp only [KVs,List.cons_append] at h ⊢;exact ⟨h.1,h.2.app h2⟩
 | [],_ :: _,_,_,h,_=>by simp [KVs] at h
 | _ :: _,[],_,_,h,_=>by simp [KVs] at h
theorem NdV.kvc {ℓ:Nat} {lab:Lab} {w:World} {j:JV} {c:Array Value} (h:NdV ℓ lab w j c):KVc j c:=by
 cases j with
 | int n =>
  simp only [NdV] at h;obtain ⟨f,a1,c1,a2,c2,hf,rfl⟩:=h;exact ⟨_,_,_,_,_,_,_,_,_,_,rfl,fun v e=>by cases e;exact ⟨rfl,rfl⟩,fun t e=>by cases e⟩
 | num f =>
  simp only [NdV] at h;obtain ⟨a1,c1,a2,c2,rfl⟩:=h;exact ⟨_,_,_,_,_,_,_,_,_,_,rfl,fun v e=>by (cases e),fun t e=>by cases e⟩
 | tr b =>
  simp only [NdV] at h;obtain ⟨f,a1,c1,a2,c2,hf,rfl⟩:=h;exact ⟨_,_,_,_,_,_,_,_,_,_,rfl,fun v e=>by (cases e),fun t e=>by cases e⟩
 | txt t =>
  simp only [NdV] at h;obtain ⟨f,a1,c1,a2,c2,hf,rfl⟩:=h;exact ⟨_,_,_,_,_,_,_,_,_,_,rfl,fun v e=>by (cases e),fun t e=>by cases e;exact ⟨rfl,rfl⟩⟩
 | arr l =>
  simp only [NdV] at h;obtain ⟨f,a1,c1,a2,c2,hf,rfl,hl⟩:=h;exact ⟨_,_,_,_,_,_,_,_,_,_,rfl,fun v e=>by (cases e),fun t e=>by cases e⟩
 | map ks l =>
  simp only [NdV] at h;obtain ⟨f,a1,c1,a2,c2,hf,rfl,hk,hl⟩:=h;exact ⟨_,_,_,_,_,_,_,_,_,_,rfl,fun v e=>by (cases e),fun t e=>by cases e⟩
noncomputable def inB (s:ByteArray) (ks:List ByteArray):Bool:=@decide (s ∈ ks) (Classical.propDecidable _)
theorem inB_true {s:ByteArray} {ks:List ByteArray} (h:s ∈ ks):inB s ks=true:=by unfold inB;exact @decide_eq_true _ (Classical.propDecidable _) h
theorem inB_false {s:ByteArray} {ks:List ByteArray} (h:s ∉ ks):inB s ks=false:=by unfold inB;exact @decide_eq_false _ (Classical.propDecidable _) h
theorem of_inB {s:ByteArray} {ks:List ByteArray} (h:inB s ks=false):s ∉ ks:=fun e=>by rw [inB_true e] at h;cases h
noncomputable def envW (known:List ByteArray) (kj:List JV) (inner:List ByteArray):List (ByteArray × JV):=(known.zip kj).filter fun x=>!inB x.1 inner
theorem envW_mem {known:List ByteArray} {kj:List JV} {inner:List ByteArray} {i:Nat} {k:ByteArray} {j:JV} (h1:known[i]?=some k) (h2:kj[i]?=some j) (h3:k ∉ inner):(k,j) ∈ envW known kj inner:=by
 unfold envW;rw [List.mem_filter];refine ⟨List.mem_of_getElem? (i:=i) ?_,by simp only [inB_false h3,Bool.not_false]⟩;rw [List.getElem?_zip_eq_some];exact ⟨h1,h2⟩
section
variable {lab lab1:Lab} {w w1:World} {b:Nat} {W W1 W2:CW} {T T2:ByteArray}
set_option maxRecDepth 100000 in
set_option maxHeartbeats 2000000 in
theorem confIn_c (a:Option Addr) (c:Nat) (ks:List ByteArray) (s:ByteArray) (w:World) (hn:NewsIn w a ks) (hl:ks.length≤100000000):Calls Tryz.prog 50 #[.slice a ks.length c,.string s] w fun e w'=>e=.returned (.bool (inB s ks))∧∃ n,w'=w.drewN n:=by
 have HN:=Lib.hid hn;clear hn;go_enter Tryz.func50,Tryz.ntmps50;go_wp2_with fail;go_loopw [9] (fun i wr=>∃ q:Nat,i=.int .i64 q∧q≤ks.length∧wr=w∧s ∉ ks.take q) (fun i _=>ks.length - (RowKit.intOf i).toNat)
 case atStart=>exact ⟨0,rfl,Nat.zero_le _,rfl,by simp⟩
 case round =>
  obtain ⟨q,rfl,hq,hwr,hs⟩:=hrel;have hwr':=hwr.symm;clear hwr;subst hwr';by_cases hlt:q < ks.length
  ·have hq1:(q:Int) < (ks.length:Int):=by omega
   have hq0:(0:Int)≤(q:Int):=Int.natCast_nonneg _;obtain ⟨k,hk⟩:∃ k,ks[q]?=some k:=⟨_,List.getElem?_eq_getElem hlt⟩;obtain ⟨ad,rfl,hc⟩:=HN.out q k hk;by_cases hks:k=s
   ·subst hks;have hin:inB k ks=true:=inB_true (List.mem_of_getElem? hk);have HIN:=Lib.hid hin;clear hin;clear hs;go_wp2;go_ret;exact ⟨by rw [HIN.out];rfl,0,rfl⟩
   ·have hs':s ∉ ks.take (q + 1):=by
     rw [List.take_add_one,hk];simp only [Option.toList_some,List.mem_append,List.mem_singleton,not_or];exact ⟨hs,fun e=>hks e.symm⟩
    have hks2:(k.toList == s.toList)=false:=by rw [Lib.toList_data,Lib.toList_data];exact bytes_ne hks
    clear hs;have HS:=Lib.hid hs';clear hs';go_wp2;exact ⟨⟨q + 1,by go_num,by omega,trivial,HS.out⟩,by simp [RowKit.intOf];omega⟩
  ·have hq1:¬ ((q:Int) < (ks.length:Int)):=by omega
   obtain rfl:q=ks.length:=by omega
   rw [List.take_length] at hs;have hin:inB s ks=false:=inB_false hs;have HIN:=Lib.hid hin;clear hin;clear hs;go_wp2;go_ret;exact ⟨by rw [HIN.out];rfl,0,rfl⟩
end
end Go.Cf
namespace Go.Cf
open Go.RowKit Go.Conc Go.Proofs
attribute [local go_sem ↓] appX_eq
attribute [local go_sem] run_store_flt
theorem flat_get:∀ {cs:List (Array Value)} {i q:Nat} {c:Array Value},(∀ c ∈ cs,c.size=7)→cs[i]?=some c→q < 7→(flat cs)[i * 7 + q]?=c[q]?
 | x :: r,0,q,c,h,hc,hq=>by
  simp only [List.getElem?_cons_zero,Option.some.injEq] at hc;subst hc;have hx:=h x (List.mem_cons_self ..);show (x.toList ++ flat r)[0 * 7 + q]?=_;rw [Nat.zero_mul,Nat.zero_add,List.getElem?_append_left (by simpa [hx] using hq),Array.getElem?_toList]
 | x :: r,i + 1,q,c,h,hc,hq=>by
  have hx:=h x (List.mem_cons_self ..);have hl:x.toList.length=7:=by simpa using hx
  show (x.toList ++ flat r)[(i + 1) * 7 + q]?=_
  rw [List.getElem?_append_right (by omega),hl,show (i + 1) * 7 + q - 7=i * 7 + q from by omega];exact flat_get (fun c hc=>h c (List.mem_cons_of_mem _ hc)) (by simpa using hc) hq
theorem KVs.sizes:∀ {l:List JV} {cs:List (Array Value)},KVs l cs→∀ c ∈ cs,c.size=7
 | [],[],_,c,h=>by cases h
 | _ :: _,_ :: _,h,c,hc=>by
  simp only [KVs] at h;rcases List.mem_cons.1 hc with rfl | hc
  ·obtain ⟨⟨n,f,b,s,a1,m1,c1,a2,m2,c2,rfl,_⟩,_⟩:=h;rfl
  ·exact h.2.sizes c hc
 | [],_ :: _,h,_,_=>by simp [KVs] at h
 | _ :: _,[],h,_,_=>by simp [KVs] at h
section
variable {ℓ:Nat} {lab lab1:Lab} {w w1:World} {b:Nat} {W W1 W2:CW} {T T2:ByteArray}
theorem rowCells {A:Option Addr} {n cap:Nat} {cs:List (Array Value)} (h:Rw 0 ℓ lab w 26 7 (.slice A n cap) n (flat cs)) (hs:∀ c ∈ cs,c.size=7) (hl:cs.length=n) {i:Nat} {c:Array Value} (hc:cs[i]?=some c):∃ ad:Addr,A=some ad∧cell7 w ad i c:=by
 have hi:=(List.getElem?_eq_some_iff.1 hc).1;have hx:=h.1;obtain ⟨_,⟨h0,hn0⟩ | ⟨g,cap,cur,hv,_⟩⟩:=h.1
 ·omega
 ·cases hv
  refine ⟨_,rfl,fun q hq=>?_⟩;have h2:=hx.cellAt (i * 7 + q) (by omega);have e:(⟨g,0,none⟩:Addr).add (i * 7 + q)=⟨g,i * 7 + q,none⟩:=by
   unfold Addr.add
   split
   ·rename_i h;rw [h]
   ·simp
  rw [e,h2,flat_get hs hc hq]
structure VarOk (W:CW) (kj:List JV):Prop where
 ex:∃ cs,W.vals=flat cs∧KVs kj cs
 nv:W.nv=kj.length
 kn:W.known.length=kj.length
 bare:∀ k ∈ W.known,Bare k∧k.size≤20
theorem VarOk.same {W':CW} {kj:List JV} (h:VarOk W kj) (h1:W'.known=W.known) (h2:W'.nv=W.nv) (h3:W'.vals=W.vals):VarOk W' kj:=⟨by rw [h3];exact h.ex,by rw [h2];exact h.nv,by rw [h1];exact h.kn,by rw [h1];exact h.bare⟩
abbrev VM (x:Nat):Prop:=x=40 ∨ x=43
def VariP (lab:Lab) (w:World) (b:Nat) (W:CW) (kj:List JV) (j:JV) (e:Ending) (w':World):Prop:=∃ ok W' T U lab',e=.returned (.bool ok)∧WAt lab' w' b W'∧WroteU W W' T U∧T.size≤21∧(ok=false→T=⟨#[]⟩∧U=[])∧(ok=true→∃ k,U=[k]∧VarK (envW W.known kj W.inner) k j T∧((∃ v,j=.int v) ∨ ∃ t,j=.txt t))∧Mv VM w lab w' lab'
def Grew (w:World) (lab:Lab) (wr:World):Prop:=∃ labr,Mv (fun _=>False) w lab wr labr
theorem NewsIn.mv {a:Option Addr} {ks:List ByteArray} (h:NewsIn w a ks) (b:∀ k,k < w.heap.size→w1.heap[k]?=w.heap[k]?):NewsIn w1 a ks:=fun i k hk=>by
 obtain ⟨ad,h1,h2⟩:=h i k hk;refine ⟨ad,h1,?_⟩;have hl:=World.block_lt_of_cell? w _ h2;unfold World.cell? at h2 ⊢;rw [b _ hl];exact h2
theorem used_set {sv kn va us inn us':Value} {k:ByteArray} (h:WAtX lab w b W sv kn va us inn) (m:Mv (·=43) w lab w1 lab1) (hr:Rw 0 43 lab1 w1 9 1 us' (W.used.length + 1) (W.used.map .string ++ [.string k])) :
  WAt lab1 (w1.setCell ⟨b,6,none⟩ us') b { W with used:=W.used ++ [k] }∧Mv VM w lab (w1.setCell ⟨b,6,none⟩ us') lab1:=by
 have hcl:=h.cl.mv m (by decide);have m2:Mv (·=40) w1 lab1 (w1.setCell ⟨b,6,none⟩ us') lab1:=Mv.setCell _ _ _ _ hcl.2;have m12:Mv VM w lab (w1.setCell ⟨b,6,none⟩ us') lab1:=(m.mono (M':=VM) (fun _ h=>.inr h)).trans m2 (fun _ h=>.inl h);refine ⟨⟨sv,kn,va,us',inn,hcl.set 6 us',h.sty.mv m12 (by decide),h.kn.mv m12 (by decide),h.va.mv m12 (by decide),?_,h.inn.mv m12 (by decide)⟩,m12⟩;have:=hr.mv m2 (by decide);show Rw 0 43 lab1 _ 9 1 us' (W.used ++ [k]).length ((W.used ++ [k]).map .string);rw [List.length_append,List.map_append];exact this
set_option maxRecDepth 100000 in
set_option maxHeartbeats 4000000 in
theorem variable_c {kj:List JV} {j:JV} {c:Array Value} {lab2:Lab} {w2:World} (h:WAt lab w b W) (hv:VarOk W kj) (hj:NdV ℓ lab2 w2 j c) (hil:W.inner.length≤1000000) (hkl:W.known.length≤1000) (hul:W.used.length≤90000000) (ht:W.text.size≤900000000) (hl:W.line≤900000000) :
  Calls Tryz.prog 42 #[.pointer (some ⟨b,0,none⟩),.agg c] w (VariP lab w b W kj j):=by
 obtain ⟨n,f,is,t,a1,m1',c1,a2,m2',c2,rfl,hint,htxt⟩:=hj.kvc;have hw0:=Wrote.pick W 3;have hlt:=pick_lt W 3 (by decide);obtain ⟨k,hk⟩:∃ k,j.kind=k:=⟨_,rfl⟩;rw [hk];have hmv:∀ o,Mv (fun _=>False) w lab (w.alloc o) (lab.ext w.heap.size 45):=fun o=>Mv.alloc _ _ _ _
 have HMV:=Lib.hid hmv;have HK:=Lib.hid h;by_cases hkk:k=1 ∨ k=4
 case neg =>
  have b1:(k != 1)=true:=bne_iff_ne.2 (fun e=>hkk (.inl e));have b4:(k != 4)=true:=bne_iff_ne.2 (fun e=>hkk (.inr e));have hfin:∀ o,VariP lab w b W kj j (.returned (.bool false)) (w.alloc o):=fun o=>⟨false,W,⟨#[]⟩,[],_,rfl,h.mv (hmv o) (fun _ _ h=>h),⟨ByteArray.append_empty.symm,fun h=>h,rfl,rfl,rfl,rfl,by simp,rfl,fun _ h=>nomatch h⟩,by decide,(fun _=>⟨rfl,rfl⟩),(fun h=>by cases h),(hmv o).mono (fun _ h=>h.elim)⟩
  have HF:=Lib.hid hfin;clear hfin hmv h hv hj hint htxt;unfold ndC;go_enter Tryz.func42,Tryz.ntmps42;go_wp2;go_ret;exact HF.out _
 have hjk:(∃ v,j=.int v) ∨ ∃ t,j=.txt t:=by
  cases j with
  | int v=>exact .inl ⟨_,rfl⟩
  | txt t=>exact .inr ⟨_,rfl⟩
  | num f=>exfalso;simp only [JV.kind] at hk;omega
  | tr f=>exfalso;simp only [JV.kind] at hk;omega
  | arr f=>exfalso;simp only [JV.kind] at hk;omega
  | map _ f=>exfalso;simp only [JV.kind] at hk;omega
 have b1:(k != 1)=false ∨ ((k != 1)=true∧(k != 4)=false):=by
  rcases hkk with rfl | rfl
  ·exact .inl rfl
  ·exact .inr ⟨rfl,rfl⟩
 have HV:=Lib.hid hv;have HJ:=Lib.hid (aI hint (aI htxt (aI hjk hk)));clear hmv h hv hj hint htxt hjk hk hkk;unfold ndC;rcases b1 with b1 | ⟨b1,b4⟩
 all_goals
  go_enter Tryz.func42,Tryz.ntmps42;go_wp2_with fail;refine (pick_c (HK.out.mv (HMV.out _) (fun _ _ h=>h)) 3 (by decide) (by decide)).mono ?_;rintro e w1 ⟨rfl,h1,m1⟩;obtain ⟨u,W1,hkW⟩:∃ u W1,W.pick 3=(u,W1):=⟨_,_,rfl⟩;rw [hkW] at h1 hw0 hlt ⊢;simp only at h1 hw0 hlt ⊢;have hM1:=((HMV.out (.cells #[.int .i64 k,.int .i64 n,.float .f64 f,.bool is,.string t,.slice a1 m1' c1,.slice a2 m2' c2] 26)).mono (M':=VM) (fun _ h=>h.elim)).trans m1 (fun _ h=>.inl h);have hbx:Cl 45 (lab.ext w.heap.size 45) w1 w.heap.size #[.int .i64 k,.int .i64 n,.float .f64 f,.bool is,.string t,.slice a1 m1' c1,.slice a2 m2' c2] 26:=(Cl.alloc w lab _ 26 45).mv m1 (by decide);have HF:=Lib.hid (aI h1 (aI hw0 (aI hM1 hbx)));obtain ⟨sv,kn,va,us,inn,hx⟩:=id h1;obtain ⟨A,cc,hva⟩:=hx.va.shape;obtain ⟨cs,hcs,hkv⟩:=HV.out.ex;have c5:w1.cell? ⟨b,5,none⟩=some (.slice A W1.nv cc):=by rw [← hva];exact hx.cl.cell 5
  have hfalse:VariP lab w b W kj j (.returned (.bool false)) w1:=⟨false,W1,⟨#[]⟩,[],_,rfl,h1,hw0.toU,by decide,(fun _=>⟨rfl,rfl⟩),(fun h=>by cases h),hM1⟩;have HFA:=Lib.hid hfalse;have hnv1:W1.nv=W.nv:=hw0.nv;have hnvb:W1.nv≤1000:=by rw [hnv1,HV.out.nv,← HV.out.kn];exact hkl
  have HX:=Lib.hid hx;clear hfalse h1 hM1 hbx hx m1 hw0;by_cases hu:u=1
  case neg =>
   have e1:((u:Int) == 1)=false:=bqf (by omega);have e2:((u:Int) != 1)=true:=by rw [bne,e1];rfl
   clear hu;go_wp2;go_ret;exact HFA.out
  have e1:((u:Int) == 1)=true:=beq_iff_eq.2 (by omega);have e2:((u:Int) != 1)=false:=by rw [bne,e1];rfl
  clear hu;go_wp2_with fail;go_loopw [25] (fun i wr=>∃ q:Nat,i=.int .i64 q∧q≤W1.nv∧Grew w1 (lab.ext w.heap.size 45) wr) (fun i _=>W1.nv - (RowKit.intOf i).toNat)
  case atStart=>exact ⟨0,rfl,Nat.zero_le _,_,Mv.refl _ _ _⟩
  case round =>
   obtain ⟨q,rfl,hq,labr,mr⟩:=hrel;by_cases hqn:q < W1.nv
   ·have hq1:(q:Int) < (W1.nv:Int):=by omega
    have hq0:(0:Int)≤(q:Int):=Int.natCast_nonneg _;have hkjl:kj.length=W1.nv:=by rw [hnv1,HV.out.nv]
    obtain ⟨jq,hjq⟩:∃ x,kj[q]?=some x:=⟨_,List.getElem?_eq_getElem (by omega)⟩;obtain ⟨cq,hcq,hkc⟩:=hkv.get hjq;have hrow:Rw 0 42 labr wr 26 7 (.slice A W1.nv cc) W1.nv (flat cs):=by
     have:=HX.out.va.mv mr (fun h=>h);rw [hva] at this;have e:W1.vals=flat cs:=HF.out.2.1.vals.trans hcs;rw [e] at this;exact this
    obtain ⟨ad,rfl,hc7⟩:=rowCells hrow hkv.sizes (by rw [hkv.len,hkjl]) hcq;obtain ⟨kq,hkq⟩:∃ x,W1.known[q]?=some x:=⟨_,List.getElem?_eq_getElem (by rw [HF.out.2.1.known,HV.out.kn,hkjl];exact hqn)⟩;obtain ⟨n',f',is',t',a1',m1'',c1',a2',m2'',c2',rfl,hint',htxt'⟩:=hkc;obtain ⟨k',hk'⟩:∃ k',jq.kind=k':=⟨_,rfl⟩;rw [hk'] at hc7 hcq;obtain ⟨r0,r1,r2,r3,r4,r5,r6⟩:=hc7.facts;have hxr:=HX.out.mv mr (fun _ _ h=>h);have hbr:=HF.out.2.2.2.mv mr (fun h=>h);obtain ⟨B4,d4,h4⟩:=hxr.kn.shape;obtain ⟨B7,d7,h7⟩:=hxr.inn.shape;have hnk:=rowNews (h4 ▸ hxr.kn);have hni:=rowNews (h7 ▸ hxr.inn);have q4:wr.cell? ⟨b,4,none⟩=some (.slice B4 W1.known.length d4):=by rw [← h4];exact hxr.cl.cell 4
    have q7:wr.cell? ⟨b,7,none⟩=some (.slice B7 W1.inner.length d7):=by rw [← h7];exact hxr.cl.cell 7
    have p0:wr.cell? ⟨w.heap.size,0,none⟩=some (.int .i64 k):=hbr.cell 0;have p1:wr.cell? ⟨w.heap.size,1,none⟩=some (.int .i64 n):=hbr.cell 1;have p4:wr.cell? ⟨w.heap.size,4,none⟩=some (.string t):=hbr.cell 4;obtain ⟨adk,hB4,hkn⟩:=hnk q kq hkq;subst hB4;have hknl:W1.known.length=W1.nv:=by rw [HF.out.2.1.known,HV.out.kn,hkjl]
    have hG:∀ o nn,Mv (fun _=>False) w1 (lab.ext w.heap.size 45) ((wr.alloc o).drewN nn) (labr.ext wr.heap.size 45):=fun o nn=>(mr.trans (Mv.alloc wr labr o 45) (fun _ h=>h)).drewN nn
    have HG:=Lib.hid hG;have HG1:Hid (∀ o nn,Mv (fun _=>False) wr labr ((wr.alloc o).drewN nn) (labr.ext wr.heap.size 45)):=Lib.hid fun o nn=>(Mv.alloc0 wr labr o 45).drewN nn
    have hwl:w.heap.size < wr.heap.size:=lt_of_block hbr.1;have hbl:b < wr.heap.size:=lt_of_block hxr.cl.1;have HXR:=Lib.hid (aI hxr (aI hnk hni));have HKV:=Lib.hid (aI hint' (aI htxt' (aI hk' hjq)));clear hG hrow hc7 hxr hbr hnk hni mr hkv hcs hint' htxt' hk' hjq hcq;by_cases g1:k'=k
    case neg =>
     have g1':(k' == k)=false:=bqf g1;go_wp2_with fail;go_quiet (fail);go_wp2;go_roundw
     case rel=>exact ⟨q + 1,by go_num,by omega,_,HG.out _ nq⟩
     case measure=>simp [RowKit.intOf];omega
    by_cases g2:n'=n
    case neg =>
     have g2':(n' == n)=false:=bqf g2;subst g1;go_wp2_with fail;go_quiet (fail);go_wp2;go_roundw
     case rel=>exact ⟨q + 1,by go_num,by omega,_,HG.out _ nq⟩
     case measure=>simp [RowKit.intOf];omega
    by_cases g3:t'=t
    case neg =>
     have g3':(t'.toList == t.toList)=false:=by rw [Lib.toList_data,Lib.toList_data];exact bytes_ne g3
     subst g1 g2;go_wp2_with fail;go_quiet (fail);go_wp2;go_roundw
     case rel=>exact ⟨q + 1,by go_num,by omega,_,HG.out _ nq⟩
     case measure=>simp [RowKit.intOf];omega
    subst g1 g2 g3;have hnA:∀ o,NewsIn (wr.alloc o) B7 W1.inner:=fun o=>HXR.out.2.2.mv (fun x hx=>Below.heap_alloc _ _ _ (by omega))
    have hnd:∀ o nn,NewsIn ((wr.alloc o).drewN nn) B7 W1.inner:=fun o nn=>hnA o
    have HND:=Lib.hid hnd;have hkn2:∀ o,(wr.alloc o).cell? (adk.add q)=some (.string kq):=fun o=>(World.cell?_alloc_lt wr o _ (World.block_lt_of_cell? wr _ hkn)).trans hkn
    have hwl2:w.heap.size ≠ wr.heap.size:=by omega
    cases hin:inB kq W1.inner with
    | true =>
     go_wp2_with fail
     go_quiet ((go_at_call 50;refine Calls.quiet_of (confIn_c B7 d7 W1.inner kq _ (HND.out _ _) ?_);rw [HF.out.2.1.inner];omega))
     go_wp2;go_roundw
     case rel=>exact ⟨q + 1,by go_num,by omega,_,HG.out _ nq⟩
     case measure=>simp [RowKit.intOf];omega
    | false =>
     have hkb:=HV.out.bare kq (by rw [← HF.out.2.1.known];exact List.mem_of_getElem? hkq);have hkz:=hkb.2;have hnb:¬ 9223372036854775807 < 1 + kq.size:=by omega
     go_wp2_with fail
     go_quiet ((go_at_call 50;refine Calls.quiet_of (confIn_c B7 d7 W1.inner kq _ (HND.out _ _) ?_);rw [HF.out.2.1.inner];omega))
     go_wp2_with fail
     have hxq:=HXR.out.1.mv (HG1.out (.cells #[.int .i64 k',.int .i64 n',.float .f64 f',.bool is',.string t',.slice a1' m1'' c1',.slice a2' m2'' c2'] 26) nq) (fun _ _ h=>h);have htx1:W1.text.size=W.text.size:=by have:=HF.out.2.1.size;rw [show (⟨#[]⟩:ByteArray).size=0 from rfl] at this;exact this
     have hln1:W1.line≤W.line:=by have:=HF.out.2.1.line_le;rw [show (⟨#[]⟩:ByteArray).size=0 from rfl] at this;exact this
     have hsz:(({ data:=#[36] }:ByteArray) ++ kq).size=kq.size + 1:=by rw [bsa];show 1 + kq.size=_;omega
     refine (put_c ⟨_,_,_,_,_,hxq⟩ (({ data:=#[36] }:ByteArray) ++ kq) (by rw [hsz];omega) (by omega) (by omega)).mono ?_;rintro e w3 ⟨rfl,h3,m3⟩;obtain ⟨sv3,kn3,va3,us3,inn3,hx3⟩:=h3;have hwp:=Wrote.put W1 (({ data:=#[36] }:ByteArray) ++ kq);obtain ⟨W2,hW2⟩:∃ x,x=W1.put (({ data:=#[36] }:ByteArray) ++ kq):=⟨_,rfl⟩;rw [← hW2] at hx3 hwp;clear hW2;obtain ⟨B3,d3,hkn3⟩:=hx3.kn.shape;obtain ⟨B6,d6,hus3⟩:=hx3.us.shape;subst hkn3 hus3;have s4:w3.cell? ⟨b,4,none⟩=some (.slice B3 W2.known.length d3):=hx3.cl.cell 4;have s6:w3.cell? ⟨b,6,none⟩=some (.slice B6 W2.used.length d6):=hx3.cl.cell 6;have sf6:=hx3.cl.free 6;have hkq2:W2.known[q]?=some kq:=by rw [hwp.known];exact hkq
     have hkl2:(q:Int) < (W2.known.length:Int):=by have:=(List.getElem?_eq_some_iff.1 hkq2).1;omega
     obtain ⟨ad3,hB3,hk3⟩:=rowNews hx3.kn q kq hkq2;subst hB3;have mA:Mv (fun _=>False) w3 (labr.ext wr.heap.size 45) (w3.alloc (.cells #[.string kq] 9)).drew ((labr.ext wr.heap.size 45).ext w3.heap.size 45):=(Mv.alloc0 w3 _ _ _).trans (Mv.aDraw _ _ _) (fun _ h=>h);have hu2:W2.used.length=W.used.length:=by rw [hwp.used,HF.out.2.1.used]
     obtain ⟨us4,w4,hrun4,hr4,hg4,hat4,A4,C4,hs4⟩:=app_str (c:=1) (a:=some ⟨w3.heap.size,0,none⟩) (news:=[kq]) (hx3.us.mv mA (fun h=>h)) (fun i k hk=>by
      cases i with
      | zero =>
       simp only [List.getElem?_cons_zero,Option.some.injEq] at hk;subst hk;exact ⟨_,rfl,blk_cell (heap_alloc_new w3 (.cells #[.string kq] 9)) 0⟩
      | succ i=>simp at hk) (by rw [hu2];simp only [List.length_cons,List.length_nil];omega)
     subst hs4;have hx3':=hx3.mv mA (fun _ _ h=>h);have hu4:=used_set (k:=kq) hx3' (Mv.grown hg4 _ 43 (fun k hk=>hx3'.us.2 k hk)) hr4;have hbl3:b < w3.heap.size:=lt_of_block hx3.cl.1;have hvk:VarK (envW W.known kj W.inner) kq j (({ data:=#[36] }:ByteArray) ++ kq):=by
      refine ⟨?_,hkb.1,rfl⟩;obtain ⟨h1,h2,h3,h4⟩:=HJ.out;obtain ⟨h5,h6,h7,h8⟩:=HKV.out;have hjj:jq=j:=by
       rcases h3 with ⟨v,rfl⟩ | ⟨t,rfl⟩
       ·obtain ⟨rfl,rfl⟩:=h1 v rfl
        cases jq <;> simp only [JV.kind] at h7 h4 <;> try omega
        obtain ⟨rfl,_⟩:=h5 _ rfl;rfl
       ·obtain ⟨rfl,rfl⟩:=h2 t rfl
        cases jq <;> simp only [JV.kind] at h7 h4 <;> try omega
        obtain ⟨_,rfl⟩:=h6 _ rfl;rfl
      rw [hjj] at h8;exact envW_mem (by rw [← HF.out.2.1.known];exact hkq) h8 (by rw [← HF.out.2.1.inner];exact of_inB hin)
     have hwall:WroteU W { W2 with used:=W2.used ++ [kq] } (({ data:=#[36] }:ByteArray) ++ kq) [kq]:=by
      have hww:=HF.out.2.1.trans hwp;rw [empty_app] at hww;exact ⟨hww.text,hww.bad,hww.line,hww.known,hww.nv,hww.vals,by show W2.used ++ [kq]=_;rw [hww.used],hww.inner,fun x hx=>by rw [List.mem_singleton.1 hx,bsa];omega⟩
     have hfin:∀ nn,VariP lab w b W kj j (.returned (.bool true)) ((w4.setCell ⟨b,6,none⟩ (.slice A4 (W2.used.length + [kq].length) C4)).drewN nn):=fun nn =>
      ⟨true,_,_,[kq],_,rfl,hu4.1.mv ((Mv.refl (fun _=>False) _ _).drewN nn) (fun _ _ h=>h),hwall,by rw [hsz];omega,(fun h=>by cases h),(fun _=>⟨kq,rfl,hvk,HJ.out.2.2.1⟩),
       ((((HF.out.2.2.1.trans (HG.out _ nq) (fun _ h=>h.elim)).trans (m3.mono (M':=VM) (fun _ h=>.inl h)) (fun _ h=>h)).trans (mA.mono (M':=VM) (fun _ h=>h.elim)) (fun _ h=>h)).trans hu4.2 (fun _ h=>h)).drewN nn⟩
     have HFIN:=Lib.hid hfin;have fb:w4.frozen? ⟨b,6,none⟩=false:=by
      have:=(hx3'.cl.mv (M:=fun x=>x=43) (Mv.grown hg4 _ 43 (fun k hk=>hx3'.us.2 k hk)) (by decide)).free 6;exact this
     obtain ⟨old6,q6w⟩:∃ v,w4.cell? ⟨b,6,none⟩=some v:=⟨_,(hx3'.cl.mv (M:=fun x=>x=43) (Mv.grown hg4 _ 43 (fun k hk=>hx3'.us.2 k hk)) (by decide)).cell 6⟩;obtain ⟨m4,hm4⟩:∃ m,m=W2.used.length + [kq].length:=⟨_,rfl⟩;rw [← hm4] at hrun4 HFIN;have hrun5:(AppX #[23,23] 23 #[.slice B6 W2.used.length d6,.slice (some ⟨w3.heap.size,0,none⟩) 1 1]).run Tryz.prog (w3.alloc (.cells #[.string kq] 9)).drew=.ok (.slice A4 m4 C4) w4:=hrun4;clear hm4 hu2 hrun4 hfin hwall hvk hu4 hx3' hr4 hg4 hat4 mA hx3 hxq m3 hwp;go_wp2_with fail;go_region;go_wp2;go_ret;exact HFIN.out 0
   ·have hq1:¬ ((q:Int) < (W1.nv:Int)):=by omega
    have HG:=Lib.hid mr;clear mr;have hfin:VariP lab w b W kj j (.returned (.bool false)) wr:=⟨false,W1,⟨#[]⟩,[],labr,rfl,HF.out.1.mv HG.out (fun _ _ h=>h),HF.out.2.1.toU,by decide,(fun _=>⟨rfl,rfl⟩),(fun h=>by cases h),HF.out.2.2.1.trans HG.out (fun _ h=>h.elim)⟩;have HFI:=Lib.hid hfin;clear hfin;go_wp2;go_ret;exact HFI.out
end
end Go.Cf
namespace Go.Cf
open Go.RowKit Go.Conc Go.Proofs
abbrev f64:=FloatKind.f64.format
theorem read8:Ieee.double.read 4620693217682128896=.number false (2 ^ 52) (-49):=by decide
theorem readM:Ieee.double.read 13965043853221167104=.number true (1000000000 * 2 ^ 23) (-23):=by decide
theorem readP:Ieee.double.read 4741671816366391296=.number false (1000000000 * 2 ^ 23) (-23):=by decide
theorem f64_eq:FloatKind.f64.format=Ieee.double:=rfl
theorem dU_val (s:Bool) (m:Nat) (i:Int):dU (.number s m i)=(if s then -1 else 1) * ((m:Int) * 2 ^ (i + 1074).toNat):=signed_eq s m _
theorem dUM:dU (Ieee.double.read 13965043853221167104)=-(1000000000 * 2 ^ 1074):=by
 rw [readM,dU_val,show ((-23:Int) + 1074).toNat=1051 from rfl,if_pos rfl,show (2:Int) ^ 1074=2 ^ 23 * 2 ^ 1051 from by rw [← Int.pow_add]];generalize (2:Int) ^ 1051=z;simp only [Int.natCast_mul,Int.natCast_pow];omega
theorem dUP:dU (Ieee.double.read 4741671816366391296)=1000000000 * 2 ^ 1074:=by
 rw [readP,dU_val,show ((-23:Int) + 1074).toNat=1051 from rfl,if_neg (by decide),show (2:Int) ^ 1074=2 ^ 23 * 2 ^ 1051 from by rw [← Int.pow_add]];generalize (2:Int) ^ 1051=z;simp only [Int.natCast_mul,Int.natCast_pow];omega
theorem read_word0 (s:Bool):Ieee.double.read (Ieee.double.word s 0)=.number s 0 (-1074):=by cases s <;> decide
theorem read_bound {b:Nat} {s:Bool} {m:Nat} {i:Int} (h:Ieee.double.read b=.number s m i):m < 2 ^ 53∧-1074≤i:=by
 unfold Ieee.Format.read at h;have hbi:Ieee.double.binade=2 ^ 52:=by decide
 have hlp:Ieee.double.leastPlace=-1074:=by decide
 dsimp only at h
 rw [hbi,hlp] at h
 split at h
 ·cases h
  exact ⟨by omega,by omega⟩
 ·split at h
  ·cases h
   exact ⟨by omega,by omega⟩
  ·split at h <;> cases h
theorem near_fin (neg:Bool) (m:Nat) (t:Nat) (place:Int) (hm:m < 2 ^ 53) (hp:-1074≤place + t) :
  (dFin (Ieee.double.read (Ieee.double.nearest neg (m * 2 ^ t) place))∧dU (Ieee.double.read (Ieee.double.nearest neg (m * 2 ^ t) place))=(if neg then -1 else 1) * ((m:Int) * 2 ^ (place + t + 1074).toNat)) ∨
  (Ieee.double.read (Ieee.double.nearest neg (m * 2 ^ t) place)=.infinity neg∧0 < m∧1024≤place + t + m.log2):=by
 rcases Nat.eq_zero_or_pos m with h0 | h0
 ·subst h0;refine .inl ?_;have:Ieee.double.nearest neg (0 * 2 ^ t) place=Ieee.double.word neg 0:=by
   unfold Ieee.Format.nearest;rw [if_pos (by simp)]
  rw [this,read_word0];refine ⟨by show (-1074:Int)≤-1074;omega,?_⟩;rw [dU_val];simp
 ·rcases nearest_exact neg m t place h0 hm hp with ⟨_,E,kept,h1,h2⟩ | ⟨h1,h2⟩
  ·refine .inl ?_;rw [h1];refine ⟨by show (-1074:Int)≤-1074 + (E:Int);omega,?_⟩;rw [dU_val,show ((-1074:Int) + (E:Int) + 1074).toNat=E from by omega];have h3:((kept * 2 ^ E:Nat):Int)=((m * 2 ^ (place + t + 1074).toNat:Nat):Int):=by rw [h2]
   rw [Int.natCast_mul,Int.natCast_mul,Int.natCast_pow,Int.natCast_pow] at h3;exact congrArg (fun x=>(if neg=true then -1 else 1) * x) h3
  ·exact .inr ⟨h1,h0,h2⟩
theorem mul8 {f:Nat} (hf:f64.order f f=some .eq):∃ e8,floatBits .mul .f64 f 4620693217682128896=some e8∧((dFin (Ieee.double.read f)∧dFin (Ieee.double.read e8)∧dU (Ieee.double.read e8)=8 * dU (Ieee.double.read f)) ∨ ∃ s,Ieee.double.read e8=.infinity s):=by
 unfold floatBits;simp only;rw [f64_eq];unfold Ieee.Format.mul;rw [read8];rcases read_fin f with h | ⟨s,h⟩ | ⟨s,t,h⟩
 ·rw [f64_eq] at h
  cases hr:Ieee.double.read f with
  | nan=>rw [hr] at h;exact h.elim
  | infinity=>rw [hr] at h;exact h.elim
  | number s m i =>
   obtain ⟨hm,hi⟩:=read_bound hr;refine ⟨_,rfl,?_⟩;show (_∧dFin (Ieee.double.read (Ieee.double.nearest (s ^^ false) (m * 2 ^ 52) (i + -49)))∧_) ∨ _;rw [Bool.xor_false];rcases near_fin s m 52 (i + -49) hm (by omega) with ⟨h1,h2⟩ | ⟨h1,_⟩
   ·refine .inl ⟨hi,h1,?_⟩;show dU (Ieee.double.read (Ieee.double.nearest s (m * 2 ^ 52) (i + -49)))=_;rw [h2,dU_val,show (i + -49 + (52:Nat) + 1074).toNat=(i + 1074).toNat + 3 from by omega,Int.pow_add];generalize (2:Int) ^ (i + 1074).toNat=z;rw [← Int.mul_assoc (m:Int)];generalize (m:Int) * z=y
    cases s <;> simp <;> omega
   ·refine .inr ⟨s,?_⟩;exact h1
 ·rw [f64_eq] at h;rw [h];refine ⟨_,rfl,.inr ⟨s,?_⟩⟩;show Ieee.double.read (Ieee.double.word (s ^^ false) Ieee.double.infRung)=_
  cases s <;> decide
 ·exfalso
  have:f64.order f f=none:=by
   show (Ieee.Format.order _ _ _)=none
   unfold Ieee.Format.order;rw [h];rfl
  rw [this] at hf;cases hf
theorem dU_int {n:Int} (h0:-1000000000 < n) (h1:n < 1000000000):dFin (Ieee.double.read (floatOfInt .f64 n))∧dU (Ieee.double.read (floatOfInt .f64 n))=n * 2 ^ 1074:=by
 have e:floatOfInt .f64 n=Ieee.double.nearest (n < 0) (n.natAbs * 2 ^ 0) 0:=by
  show Ieee.double.nearest (n < 0) n.natAbs 0=_
  rw [Nat.pow_zero,Nat.mul_one]
 rw [e];rcases near_fin (n < 0) n.natAbs 0 0 (by omega) (by omega) with ⟨h2,h3⟩ | ⟨h2,h3⟩
 ·refine ⟨h2,?_⟩;rw [h3,show ((0:Int) + ((0:Nat):Int) + 1074).toNat=1074 from rfl];generalize (2:Int) ^ 1074=z;by_cases hn:n < 0
  ·rw [if_pos (by simpa using hn),show (n.natAbs:Int)=-n from by omega,Int.neg_mul,Int.one_mul,Int.neg_mul,Int.neg_neg]
  ·rw [if_neg (by simpa using hn),show (n.natAbs:Int)=n from by omega,Int.one_mul]
 ·exfalso
  have hl:n.natAbs.log2 < 30:=(Nat.log2_lt (by omega)).2 (by omega);omega
theorem cast_pow_le (a b x y:Nat) (h:a * 2 ^ x≤b * 2 ^ y):(a:Int) * 2 ^ x≤(b:Int) * 2 ^ y:=by
 have h3:((a * 2 ^ x:Nat):Int)≤((b * 2 ^ y:Nat):Int):=Int.ofNat_le.2 h;rw [Int.natCast_mul,Int.natCast_mul,Int.natCast_pow,Int.natCast_pow] at h3;exact h3
theorem cut_le (s:Bool) (m:Nat) (i:Int) (K:Nat) (hi:-(K:Int)≤i):Ieee.Toward.zero.cut s (m <<< i.toNat) (-i).toNat * 2 ^ K≤m * 2 ^ (i + K).toNat:=by
 unfold Ieee.Toward.cut;simp only [Bool.toNat_false,Nat.add_zero,Nat.shiftLeft_eq,Nat.one_mul];rcases Int.le_total 0 i with h | h
 ·rw [show (-i).toNat=0 from by omega,Nat.zero_min,Nat.pow_zero,Nat.div_one,show (i + K).toNat=i.toNat + K from by omega,Nat.pow_add,Nat.mul_assoc];exact Nat.le_refl _
 ·rw [show i.toNat=0 from by omega,Nat.pow_zero,Nat.mul_one];rcases Nat.le_total (-i).toNat (m.log2 + 2) with h2 | h2
  ·rw [Nat.min_eq_left h2];have e:K=(-i).toNat + (i + K).toNat:=by omega
   calc m / 2 ^ (-i).toNat * 2 ^ K=m / 2 ^ (-i).toNat * (2 ^ (-i).toNat * 2 ^ (i + K).toNat):=by rw [← Nat.pow_add,← e]
    _=m / 2 ^ (-i).toNat * 2 ^ (-i).toNat * 2 ^ (i + K).toNat:=by rw [Nat.mul_assoc]
    _≤m * 2 ^ (i + K).toNat:=Nat.mul_le_mul_right _ (Nat.div_mul_le_self _ _)
  ·rw [Nat.min_eq_right h2];have:m < 2 ^ (m.log2 + 2):=Nat.lt_of_lt_of_le Nat.lt_log2_self (Nat.pow_le_pow_right (by decide) (by omega));rw [Nat.div_eq_of_lt this,Nat.zero_mul];exact Nat.zero_le _
theorem toInt_small {e:Nat} (hd:dFin (Ieee.double.read e)) (h0:-(1000000000 * 2 ^ 1074) < dU (Ieee.double.read e)) (h1:dU (Ieee.double.read e) < 1000000000 * 2 ^ 1074) :
  ∃ n:Int,floatToIntVal .f64 e .i64=some n∧-1000000000 < n∧n < 1000000000:=by
 cases hr:Ieee.double.read e with
 | nan=>rw [hr] at hd;exact hd.elim
 | infinity=>rw [hr] at hd;exact hd.elim
 | number s m i =>
  rw [hr] at hd h0 h1;have hi:-1074≤i:=hd;rw [dU_val] at h0 h1;obtain ⟨c,hc⟩:∃ c,Ieee.Toward.zero.cut s (m <<< i.toNat) (-i).toNat=c:=⟨_,rfl⟩;have hz:=pow2_pos 1074;have key:(c:Int) * 2 ^ 1074≤(m:Int) * 2 ^ (i + 1074).toNat:=by
   have hkN:c * 2 ^ 1074≤m * 2 ^ (i + (1074:Nat)).toNat:=by
    rw [← hc];exact cut_le s m i 1074 hi
   exact cast_pow_le _ _ _ _ hkN
  have hcb:(c:Int) < 1000000000:=by
   refine Int.lt_of_mul_lt_mul_right (a:=(2:Int) ^ 1074) (Int.lt_of_le_of_lt key ?_) (Int.le_of_lt hz);generalize (2:Int) ^ 1074=z at *;generalize (m:Int) * 2 ^ (i + 1074).toNat=y at *
   cases s
   ·simp at h1;omega
   ·simp at h0;omega
  have hti:(FloatKind.f64.decode e).toInt .zero=some (Ieee.signed s c 0):=by
   show (Ieee.double.read e).toInt .zero=_
   rw [hr];unfold Ieee.Datum.toInt Ieee.Datum.integral;simp only [hc]
  have hsg:Ieee.signed s c 0=(if s then -1 else 1) * (c:Int):=by rw [signed_eq,Int.pow_zero,Int.mul_one]
  refine ⟨Ieee.signed s c 0,?_,?_,?_⟩
  ·unfold floatToIntVal;rw [hti];simp only;rw [if_pos];rw [hsg];have e1:IntKind.i64.min=-9223372036854775808:=by decide
   have e2:IntKind.i64.max=9223372036854775807:=by decide
   rw [e1,e2]
   cases s <;> simp <;> omega
  ·rw [hsg];cases s <;> simp <;> omega
  ·rw [hsg];cases s <;> simp <;> omega
def ancs (l:List Oper):Nat→List Nat→List Nat
 | 0,s=>s
 | n + 1,s=>ancs l n (s ++ s.flatMap fun i=>((l[i]?).map fun o=>(o.after.toList.filter fun e=>Region.binds .any e).map (·.on)).getD [])
theorem ancs_all {l:List Oper} {p:Nat→Prop} (h:∀ i o,l[i]?=some o→p i→∀ e ∈ o.after,Region.binds .any e=true→p e.on):∀ (n:Nat) (s:List Nat),(∀ i ∈ s,p i)→∀ i ∈ ancs l n s,p i
 | 0,s,hs,i,hi=>hs i hi
 | n + 1,s,hs,i,hi=>by
  refine ancs_all h n _ (fun k hk=>?_) i hi;rcases List.mem_append.1 hk with hk | hk
  ·exact hs k hk
  ·obtain ⟨x,hx,hkx⟩:=List.mem_flatMap.1 hk
   cases ho:l[x]? with
   | none=>rw [ho] at hkx;cases hkx
   | some o =>
    rw [ho] at hkx;simp only [Option.map_some,Option.getD_some] at hkx;obtain ⟨e,he,rfl⟩:=List.mem_map.1 hkx;obtain ⟨he1,he2⟩:=List.mem_filter.1 he;exact h x o ho (hs x hx) e (by simpa using he1) he2
section
variable {P:Program} {Q:Exit→Act→World→Prop}
theorem wp_region_call {id:Nat} {l:List Oper} {a:Act} {w:World} (C:Nat→Value→Lab→World→Prop) (R:Lab→World→World→Prop) (lo m:Nat) (lab:Lab) (hm:P.follows .mixedOrders=true)
  (hdep:(List.range l.length).all (fun i=>((l[i]?).map fun o=>o.after.all fun e=>!Region.binds .any e || decide (e.on < i)).getD true)=true)
  (hlen:l.length=m + 1) (hlo:lo + m < a.tmps.size)
  (hdst:(List.range m).all (fun i=>((l[i]?).map fun o=>o.dst == some (lo + i) && o.guard.isNone).getD true)=true)
  (hlast:((l[m]?).map fun o=>o.dst == some (lo + m) && o.guard.isNone).getD false=true) (hanc:(List.range m).all (fun k=>(ancs l 6 [m]).contains k)=true)
  (hd0:a.defers=[])
  (hC:∀ k v lab w lab' w',C k v lab w→Mv (fun _=>False) w lab w' lab'→C k v lab' w')
  (hstep:∀ L a' lab' w' i o,i < m→l[i]?=some o→(∀ e ∈ o.after,Region.binds .any e=true→L.getD e.on false=true)→BlAt C (lo + ·) a w lab m L a' lab' w'→Does P o a' lab' w' (C i))
  (hst:∀ (a':Act) lab' w' o,l[m]?=some o→(∀ k,k < m→C k (a'.tmps.getD (lo + k) undef) lab' w')→(∀ j,¬ (lo≤j∧j < lo + m)→a'.tmps.getD j undef=a.tmps.getD j undef)→Mv (fun _=>False) w lab w' lab'→∃ f args,(execOp a'.eval o).run P w'=.ok (.enter f args) w'∧Calls P f args w' fun e w2=>∃ v,e=.returned v∧R lab' w' w2)
  (hend:∀ us lab' w' w2,us.length=m + 1→Mv (fun _=>False) w lab w' lab'→R lab' w' w2→Q .normal ⟨(a.tmps.toList.take lo ++ (us ++ a.tmps.toList.drop (lo + (m + 1)))).toArray,[]⟩ w2) :
  (Code.region id l.toArray true).wp P Q a w:=by
 have hd:∀ i o,i < m→l[i]?=some o→o.dst=some (lo + i)∧o.guard=none:=by
  intro i o hi ho;have h1:=List.all_eq_true.1 hdst i (List.mem_range.2 hi);rw [ho] at h1;simpa using h1
 have hrep:∀ i,(Array.replicate l.length false).getD i false=false:=fun i=>by
  rw [gdg,Array.getElem?_replicate]
  split <;> rfl
 refine wp_region_inv (fun L a' w'=>(L.getD m false=false∧(∀ i o,l[i]?=some o→L.getD i false=true→∀ e ∈ o.after,Region.binds .any e=true→L.getD e.on false=true)∧∃ lab',BlAt C (lo + ·) a w lab m L a' lab' w') ∨
  ((∀ k,k < m→L.getD k false=true)∧L.getD m false=true∧a'.defers=[]∧a'.tmps.size=a.tmps.size∧(∀ j,¬ (lo≤j∧j < lo + (m + 1))→a'.tmps.getD j undef=a.tmps.getD j undef)∧∃ lab1 w1,Mv (fun _=>False) w lab w1 lab1∧R lab1 w1 w')) hm hdep ?_ ?_ ?_
 ·exact .inl ⟨hrep m,fun i o _ h=>(by rw [hrep] at h;cases h),lab,hd0,rfl,fun _ _=>rfl,⟨rfl,rfl,rfl,Nat.le_refl _,fun _ _ _=>rfl,fun _ _ _=>rfl⟩,fun k hk h=>by rw [hrep] at h;cases h⟩
 ·rintro L a' w' i o hL ho hf hall hI;have hi:i < m + 1:=by rw [← hlen];exact (List.getElem?_eq_some_iff.1 ho).1
  have hsz:L.size=m + 1:=by rw [hL,hlen]
  have hf2:L.getD i false=false:=by
   rw [gdg] at hf ⊢
   cases hc:L[i]? with
   | none=>rfl
   | some x=>rw [hc] at hf;exact hf
  have hg:=fun j=>getD_set2 L i j (by omega)
  have hmono:∀ j,L.getD j false=true→(L.setIfInBounds i true).getD j false=true:=fun j h=>by
   rw [hg]
   split
   ·rfl
   ·exact h
  rcases hI with ⟨hm0,hcl,lab',hb⟩ | ⟨hk,hm1,_⟩
  ·rcases Nat.lt_or_ge i m with him | him
   ·obtain ⟨h1,h2⟩:=hd i o him ho;have hs:=hstep L a' lab' w' i o him ho hall hb;have key:∀ v lab2 w2,Mv (fun _=>False) w' lab' w2 lab2→C i v lab2 w2→(L.setIfInBounds i true).getD m false=false∧(∀ i' o,l[i']?=some o→(L.setIfInBounds i true).getD i' false=true→∀ e ∈ o.after,Region.binds .any e=true→(L.setIfInBounds i true).getD e.on false=true)∧∃ lab3,BlAt C (lo + ·) a w lab m (L.setIfInBounds i true) (a'.put o.dst v) lab3 w2:=by
     intro v lab2 w2 mv hc;rw [h1];have hsz:lo + i < a'.tmps.size:=by rw [hb.size];omega
     have hcl2:∀ i' o,l[i']?=some o→(L.setIfInBounds i true).getD i' false=true→∀ e ∈ o.after,Region.binds .any e=true→(L.setIfInBounds i true).getD e.on false=true:=by
      intro i' o' ho' hi' e he hbe;rw [hg] at hi'
      split at hi'
      ·next h =>
       subst h;rw [ho] at ho'
       cases ho'
       exact hmono _ (hall e he hbe)
      ·exact hmono _ (hcl i' o' ho' hi' e he hbe)
     refine ⟨by rw [hg,if_neg (by omega)];exact hm0,hcl2,lab2,hb.defers,by simpa [Act.put] using hb.size,fun j hj=>?_,hb.mv.trans mv (fun _ h=>h),fun k hk hlk=>?_⟩
     ·rw [put_getD hsz,if_neg (fun e=>hj i him e.symm)];exact hb.keep j hj
     ·show C k ((a'.put (some (lo + i)) v).tmps.getD (lo + k) undef) lab2 w2
      rw [put_getD hsz];by_cases hki:k=i
      ·subst hki;rw [if_pos rfl];exact hc
      ·rw [if_neg (by omega)];rw [hg,if_neg hki] at hlk;exact hC k _ _ _ _ _ (hb.got k hk hlk) mv
    have hw:Region.wanted o (yielded l.toArray a'.tmps)=true:=by simp [Region.wanted,h2]
    unfold wpOp;simp only [List.getElem?_toArray,ho,hw,if_true]
    left
    unfold Oper.wp;rcases hs with ⟨v,w2,lab2,hrun,mv,hc⟩ | ⟨f,args,hrun,hcalls⟩
    ·rw [hrun];exact .inl (key v lab2 w2 mv hc)
    ·rw [hrun,Oper.upon_enter];refine hcalls.mono ?_;rintro e w2 ⟨v,lab2,rfl,mv,hc⟩;exact .inl (key v lab2 w2 mv hc)
   ·have him':i=m:=by omega
    subst him';rw [ho] at hlast;simp only [Option.map_some,Option.getD_some,Bool.and_eq_true,Option.isNone_iff_eq_none,beq_iff_eq] at hlast;obtain ⟨h1,h2⟩:=hlast;have hal:∀ k,k < i→L.getD k false=true:=by
     intro k hk;have h4:=List.all_eq_true.1 hanc k (List.mem_range.2 hk);have h5:k ∈ ancs l 6 [i]:=by simpa using h4
     have h6:=ancs_all (l:=l) (p:=fun x=>x=i ∨ L.getD x false=true) (fun x o' ho' hx e he hbe=>by
      rcases hx with rfl | hx
      ·rw [ho] at ho'
       cases ho'
       exact .inr (hall e he hbe)
      ·exact .inr (hcl x o' ho' hx e he hbe)) 6 [i] (fun x hx=>.inl (by simpa using hx)) k h5
     rcases h6 with h6 | h6
     ·omega
     ·exact h6
    have hkeep:∀ j,¬ (lo≤j∧j < lo + i)→a'.tmps.getD j undef=a.tmps.getD j undef:=fun j hj=>hb.keep j (fun k hk e=>hj (by have e':lo + k=j:=e;omega))
    obtain ⟨f,args,hrun,hcl2⟩:=hst a' lab' w' o ho (fun k hk=>hb.got k hk (hal k hk)) hkeep hb.mv;have hw:Region.wanted o (yielded l.toArray a'.tmps)=true:=by simp [Region.wanted,h2]
    unfold wpOp;simp only [List.getElem?_toArray,ho,hw,if_true]
    left
    unfold Oper.wp;rw [hrun,Oper.upon_enter];refine hcl2.mono ?_;rintro e w2 ⟨v,rfl,hR⟩;have hsz:lo + i < a'.tmps.size:=by rw [hb.size];exact hlo
    rw [h1];refine .inr ⟨fun k hk=>by rw [hg,if_neg (by omega)];exact hal k hk,by rw [hg,if_pos rfl],hb.defers,by simpa [Act.put] using hb.size,fun j hj=>?_,lab',w',hb.mv,hR⟩;rw [put_getD hsz,if_neg (by omega)];exact hkeep j (by omega)
  ·rcases Nat.lt_or_ge i m with him | him
   ·rw [hk i him] at hf2;cases hf2
   ·have:i=m:=by omega
    subst this;rw [hm1] at hf2;cases hf2
 ·rintro L a' w' hL hall hI;rcases hI with ⟨hm0,_,_⟩ | ⟨_,_,hdf,hsz,hkeep,lab1,w1,mv,hR⟩
  ·rw [hall m (by omega)] at hm0;cases hm0
  ·obtain ⟨us,hu,ht⟩:=frame_range a'.tmps a.tmps lo (m + 1) hsz (by omega) hkeep;have:=hend us lab1 w1 w' hu mv hR;obtain ⟨t,d⟩:=a';simp only at hdf ht this;subst hdf;rw [ht];exact this
end
end Go.Cf
