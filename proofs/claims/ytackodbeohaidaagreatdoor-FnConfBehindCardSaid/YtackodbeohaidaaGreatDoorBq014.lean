/-
  Texts joined: Vj Fr Wu Nu Wx.
-/
import Derived.Test.YtackodbeohaidaaGreatDoorBq011
import Derived.Test.YtackodbeohaidaaGreatDoorBq013
import Derived.WalkLawsBesides
import Derived.Laws.FloatArith
import Derived.KernelRfl
namespace Go.Cf
open Go.RowKit Go.Conc Go.Proofs
attribute [local go_sem ↓] appX_eq
attribute [local go_sem] run_store_flt
theorem flat_get : ∀ {cs : List (Array Value)} {i q : Nat} {c : Array Value},(∀ c ∈ cs,c.size = 7) → cs[i]? = some c → q < 7 → (flat cs)[i * 7 + q]? = c[q]?
 | x :: r,0,q,c,h,hc,hq => by
  simp only [List.getElem?_cons_zero,Option.some.injEq] at hc;subst hc;have hx := h x (List.mem_cons_self ..);show (x.toList ++ flat r)[0 * 7 + q]? = _;rw [Nat.zero_mul,Nat.zero_add,List.getElem?_append_left (by simpa [hx] using hq),Array.getElem?_toList]
 | x :: r,i + 1,q,c,h,hc,hq => by
  have hx := h x (List.mem_cons_self ..);have hl : x.toList.length = 7 := by simpa using hx
  show (x.toList ++ flat r)[(i + 1) * 7 + q]? = _
  rw [List.getElem?_append_right (by omega),hl,show (i + 1) * 7 + q - 7 = i * 7 + q from by omega];exact flat_get (fun c hc => h c (List.mem_cons_of_mem _ hc)) (by simpa using hc) hq
theorem KVs.sizes : ∀ {l : List JV} {cs : List (Array Value)},KVs l cs → ∀ c ∈ cs,c.size = 7
 | [],[],_,c,h => by cases h
 | _ :: _,_ :: _,h,c,hc => by
  simp only [KVs] at h;rcases List.mem_cons.1 hc with rfl | hc
  ·obtain ⟨⟨n,f,b,s,a1,m1,c1,a2,m2,c2,rfl,_⟩,_⟩ := h;rfl
  ·exact h.2.sizes c hc
 | [],_ :: _,h,_,_ => by simp [KVs] at h
 | _ :: _,[],h,_,_ => by simp [KVs] at h
section
variable {ℓ : Nat} {lab lab1 : Lab} {w w1 : World} {b : Nat} {W W1 W2 : CW} {T T2 : ByteArray}
theorem rowCells {A : Option Addr} {n cap : Nat} {cs : List (Array Value)} (h : Rw 0 ℓ lab w 26 7 (.slice A n cap) n (flat cs)) (hs : ∀ c ∈ cs,c.size = 7) (hl : cs.length = n) {i : Nat} {c : Array Value} (hc : cs[i]? = some c) : ∃ ad : Addr,A = some ad ∧ cell7 w ad i c := by
 have hi := (List.getElem?_eq_some_iff.1 hc).1;have hx := h.1;obtain ⟨_,⟨h0,hn0⟩ | ⟨g,cap,cur,hv,_⟩⟩ := h.1
 ·omega
 ·cases hv
  refine ⟨_,rfl,fun q hq => ?_⟩;have h2 := hx.cellAt (i * 7 + q) (by omega);have e : (⟨g,0,none⟩ : Addr).add (i * 7 + q) = ⟨g,i * 7 + q,none⟩ := by
   unfold Addr.add
   split
   ·rename_i h;rw [h]
   ·simp
  rw [e,h2,flat_get hs hc hq]
structure VarOk (W : CW) (kj : List JV) : Prop where
 ex : ∃ cs,W.vals = flat cs ∧ KVs kj cs
 nv : W.nv = kj.length
 kn : W.known.length = kj.length
 bare : ∀ k ∈ W.known,Bare k ∧ k.size ≤ 20
theorem VarOk.same {W' : CW} {kj : List JV} (h : VarOk W kj) (h1 : W'.known = W.known) (h2 : W'.nv = W.nv) (h3 : W'.vals = W.vals) : VarOk W' kj := ⟨by rw [h3];exact h.ex,by rw [h2];exact h.nv,by rw [h1];exact h.kn,by rw [h1];exact h.bare⟩
abbrev VM (x : Nat) : Prop := x = 40 ∨ x = 43
def VariP (lab : Lab) (w : World) (b : Nat) (W : CW) (kj : List JV) (j : JV) (e : Ending) (w' : World) : Prop := ∃ ok W' T U lab',e = .returned (.bool ok) ∧ WAt lab' w' b W' ∧ WroteU W W' T U ∧ T.size ≤ 21 ∧ (ok = false → T = ⟨#[]⟩ ∧ U = []) ∧ (ok = true → ∃ k,U = [k] ∧ VarK (envW W.known kj W.inner) k j T ∧ ((∃ v,j = .int v) ∨ ∃ t,j = .txt t)) ∧ Mv VM w lab w' lab'
def Grew (w : World) (lab : Lab) (wr : World) : Prop := ∃ labr,Mv (fun _ => False) w lab wr labr
theorem NewsIn.mv {a : Option Addr} {ks : List ByteArray} (h : NewsIn w a ks) (b : ∀ k,k < w.heap.size → w1.heap[k]? = w.heap[k]?) : NewsIn w1 a ks := fun i k hk => by
 obtain ⟨ad,h1,h2⟩ := h i k hk;refine ⟨ad,h1,?_⟩;have hl := World.block_lt_of_cell? w _ h2;unfold World.cell? at h2 ⊢;rw [b _ hl];exact h2
theorem used_set {sv kn va us inn us' : Value} {k : ByteArray} (h : WAtX lab w b W sv kn va us inn) (m : Mv (· = 43) w lab w1 lab1) (hr : Rw 0 43 lab1 w1 9 1 us' (W.used.length + 1) (W.used.map .string ++ [.string k])) :
  WAt lab1 (w1.setCell ⟨b,6,none⟩ us') b { W with used := W.used ++ [k] } ∧ Mv VM w lab (w1.setCell ⟨b,6,none⟩ us') lab1 := by
 have hcl := h.cl.mv m (by decide);have m2 : Mv (· = 40) w1 lab1 (w1.setCell ⟨b,6,none⟩ us') lab1 := Mv.setCell _ _ _ _ hcl.2;have m12 : Mv VM w lab (w1.setCell ⟨b,6,none⟩ us') lab1 := (m.mono (M' := VM) (fun _ h => .inr h)).trans m2 (fun _ h => .inl h);refine ⟨⟨sv,kn,va,us',inn,hcl.set 6 us',h.sty.mv m12 (by decide),h.kn.mv m12 (by decide),h.va.mv m12 (by decide),?_,h.inn.mv m12 (by decide)⟩,m12⟩;have := hr.mv m2 (by decide);show Rw 0 43 lab1 _ 9 1 us' (W.used ++ [k]).length ((W.used ++ [k]).map .string);rw [List.length_append,List.map_append];exact this
set_option maxRecDepth 100000 in
set_option maxHeartbeats 4000000 in
theorem variable_c {kj : List JV} {j : JV} {c : Array Value} {lab2 : Lab} {w2 : World} (h : WAt lab w b W) (hv : VarOk W kj) (hj : NdV ℓ lab2 w2 j c) (hil : W.inner.length ≤ 1000000) (hkl : W.known.length ≤ 1000) (hul : W.used.length ≤ 90000000) (ht : W.text.size ≤ 900000000) (hl : W.line ≤ 900000000) :
  Calls Tryz.prog 42 #[.pointer (some ⟨b,0,none⟩),.agg c] w (VariP lab w b W kj j) := by
 obtain ⟨n,f,is,t,a1,m1',c1,a2,m2',c2,rfl,hint,htxt⟩ := hj.kvc;have hw0 := Wrote.pick W 3;have hlt := pick_lt W 3 (by decide);obtain ⟨k,hk⟩ : ∃ k,j.kind = k := ⟨_,rfl⟩;rw [hk];have hmv : ∀ o,Mv (fun _ => False) w lab (w.alloc o) (lab.ext w.heap.size 45) := fun o => Mv.alloc _ _ _ _
 have HMV := Lib.hid hmv;have HK := Lib.hid h;by_cases hkk : k = 1 ∨ k = 4
 case neg =>
  have b1 : (k != 1) = true := bne_iff_ne.2 (fun e => hkk (.inl e));have b4 : (k != 4) = true := bne_iff_ne.2 (fun e => hkk (.inr e));have hfin : ∀ o,VariP lab w b W kj j (.returned (.bool false)) (w.alloc o) := fun o => ⟨false,W,⟨#[]⟩,[],_,rfl,h.mv (hmv o) (fun _ _ h => h),⟨ByteArray.append_empty.symm,fun h => h,rfl,rfl,rfl,rfl,by simp,rfl,fun _ h => nomatch h⟩,by decide,(fun _ => ⟨rfl,rfl⟩),(fun h => by cases h),(hmv o).mono (fun _ h => h.elim)⟩
  have HF := Lib.hid hfin;clear hfin hmv h hv hj hint htxt;unfold ndC;go_enter Tryz.func42,Tryz.ntmps42;go_wp2;go_ret;exact HF.out _
 have hjk : (∃ v,j = .int v) ∨ ∃ t,j = .txt t := by
  cases j with
  | int v => exact .inl ⟨_,rfl⟩
  | txt t => exact .inr ⟨_,rfl⟩
  | num f => exfalso;simp only [JV.kind] at hk;omega
  | tr f => exfalso;simp only [JV.kind] at hk;omega
  | arr f => exfalso;simp only [JV.kind] at hk;omega
  | map _ f => exfalso;simp only [JV.kind] at hk;omega
 have b1 : (k != 1) = false ∨ ((k != 1) = true ∧ (k != 4) = false) := by
  rcases hkk with rfl | rfl
  ·exact .inl rfl
  ·exact .inr ⟨rfl,rfl⟩
 have HV := Lib.hid hv;have HJ := Lib.hid (aI hint (aI htxt (aI hjk hk)));clear hmv h hv hj hint htxt hjk hk hkk;unfold ndC;rcases b1 with b1 | ⟨b1,b4⟩
 all_goals
  go_enter Tryz.func42,Tryz.ntmps42;go_wp2_with fail;refine (pick_c (HK.out.mv (HMV.out _) (fun _ _ h => h)) 3 (by decide) (by decide)).mono ?_;rintro e w1 ⟨rfl,h1,m1⟩;obtain ⟨u,W1,hkW⟩ : ∃ u W1,W.pick 3 = (u,W1) := ⟨_,_,rfl⟩;rw [hkW] at h1 hw0 hlt ⊢;simp only at h1 hw0 hlt ⊢;have hM1 := ((HMV.out (.cells #[.int .i64 k,.int .i64 n,.float .f64 f,.bool is,.string t,.slice a1 m1' c1,.slice a2 m2' c2] 26)).mono (M' := VM) (fun _ h => h.elim)).trans m1 (fun _ h => .inl h);have hbx : Cl 45 (lab.ext w.heap.size 45) w1 w.heap.size #[.int .i64 k,.int .i64 n,.float .f64 f,.bool is,.string t,.slice a1 m1' c1,.slice a2 m2' c2] 26 := (Cl.alloc w lab _ 26 45).mv m1 (by decide);have HF := Lib.hid (aI h1 (aI hw0 (aI hM1 hbx)));obtain ⟨sv,kn,va,us,inn,hx⟩ := id h1;obtain ⟨A,cc,hva⟩ := hx.va.shape;obtain ⟨cs,hcs,hkv⟩ := HV.out.ex;have c5 : w1.cell? ⟨b,5,none⟩ = some (.slice A W1.nv cc) := by rw [← hva];exact hx.cl.cell 5
  have hfalse : VariP lab w b W kj j (.returned (.bool false)) w1 := ⟨false,W1,⟨#[]⟩,[],_,rfl,h1,hw0.toU,by decide,(fun _ => ⟨rfl,rfl⟩),(fun h => by cases h),hM1⟩;have HFA := Lib.hid hfalse;have hnv1 : W1.nv = W.nv := hw0.nv;have hnvb : W1.nv ≤ 1000 := by rw [hnv1,HV.out.nv,← HV.out.kn];exact hkl
  have HX := Lib.hid hx;clear hfalse h1 hM1 hbx hx m1 hw0;by_cases hu : u = 1
  case neg =>
   have e1 : ((u : Int) == 1) = false := bqf (by omega);have e2 : ((u : Int) != 1) = true := by rw [bne,e1];rfl
   clear hu;go_wp2;go_ret;exact HFA.out
  have e1 : ((u : Int) == 1) = true := beq_iff_eq.2 (by omega);have e2 : ((u : Int) != 1) = false := by rw [bne,e1];rfl
  clear hu;go_wp2_with fail;go_loopw [25] (fun i wr => ∃ q : Nat,i = .int .i64 q ∧ q ≤ W1.nv ∧ Grew w1 (lab.ext w.heap.size 45) wr) (fun i _ => W1.nv - (RowKit.intOf i).toNat)
  case atStart => exact ⟨0,rfl,Nat.zero_le _,_,Mv.refl _ _ _⟩
  case round =>
   obtain ⟨q,rfl,hq,labr,mr⟩ := hrel;by_cases hqn : q < W1.nv
   ·have hq1 : (q : Int) < (W1.nv : Int) := by omega
    have hq0 : (0 : Int) ≤ (q : Int) := Int.natCast_nonneg _;have hkjl : kj.length = W1.nv := by rw [hnv1,HV.out.nv]
    obtain ⟨jq,hjq⟩ : ∃ x,kj[q]? = some x := ⟨_,List.getElem?_eq_getElem (by omega)⟩;obtain ⟨cq,hcq,hkc⟩ := hkv.get hjq;have hrow : Rw 0 42 labr wr 26 7 (.slice A W1.nv cc) W1.nv (flat cs) := by
     have := HX.out.va.mv mr (fun h => h);rw [hva] at this;have e : W1.vals = flat cs := HF.out.2.1.vals.trans hcs;rw [e] at this;exact this
    obtain ⟨ad,rfl,hc7⟩ := rowCells hrow hkv.sizes (by rw [hkv.len,hkjl]) hcq;obtain ⟨kq,hkq⟩ : ∃ x,W1.known[q]? = some x := ⟨_,List.getElem?_eq_getElem (by rw [HF.out.2.1.known,HV.out.kn,hkjl];exact hqn)⟩;obtain ⟨n',f',is',t',a1',m1'',c1',a2',m2'',c2',rfl,hint',htxt'⟩ := hkc;obtain ⟨k',hk'⟩ : ∃ k',jq.kind = k' := ⟨_,rfl⟩;rw [hk'] at hc7 hcq;obtain ⟨r0,r1,r2,r3,r4,r5,r6⟩ := hc7.facts;have hxr := HX.out.mv mr (fun _ _ h => h);have hbr := HF.out.2.2.2.mv mr (fun h => h);obtain ⟨B4,d4,h4⟩ := hxr.kn.shape;obtain ⟨B7,d7,h7⟩ := hxr.inn.shape;have hnk := rowNews (h4 ▸ hxr.kn);have hni := rowNews (h7 ▸ hxr.inn);have q4 : wr.cell? ⟨b,4,none⟩ = some (.slice B4 W1.known.length d4) := by rw [← h4];exact hxr.cl.cell 4
    have q7 : wr.cell? ⟨b,7,none⟩ = some (.slice B7 W1.inner.length d7) := by rw [← h7];exact hxr.cl.cell 7
    have p0 : wr.cell? ⟨w.heap.size,0,none⟩ = some (.int .i64 k) := hbr.cell 0;have p1 : wr.cell? ⟨w.heap.size,1,none⟩ = some (.int .i64 n) := hbr.cell 1;have p4 : wr.cell? ⟨w.heap.size,4,none⟩ = some (.string t) := hbr.cell 4;obtain ⟨adk,hB4,hkn⟩ := hnk q kq hkq;subst hB4;have hknl : W1.known.length = W1.nv := by rw [HF.out.2.1.known,HV.out.kn,hkjl]
    have hG : ∀ o nn,Mv (fun _ => False) w1 (lab.ext w.heap.size 45) ((wr.alloc o).drewN nn) (labr.ext wr.heap.size 45) := fun o nn => (mr.trans (Mv.alloc wr labr o 45) (fun _ h => h)).drewN nn
    have HG := Lib.hid hG;have HG1 : Hid (∀ o nn,Mv (fun _ => False) wr labr ((wr.alloc o).drewN nn) (labr.ext wr.heap.size 45)) := Lib.hid fun o nn => (Mv.alloc0 wr labr o 45).drewN nn
    have hwl : w.heap.size < wr.heap.size := lt_of_block hbr.1;have hbl : b < wr.heap.size := lt_of_block hxr.cl.1;have HXR := Lib.hid (aI hxr (aI hnk hni));have HKV := Lib.hid (aI hint' (aI htxt' (aI hk' hjq)));clear hG hrow hc7 hxr hbr hnk hni mr hkv hcs hint' htxt' hk' hjq hcq;by_cases g1 : k' = k
    case neg =>
     have g1' : (k' == k) = false := bqf g1;go_wp2_with fail;go_quiet (fail);go_wp2;go_roundw
     case rel => exact ⟨q + 1,by go_num,by omega,_,HG.out _ nq⟩
     case measure => simp [RowKit.intOf];omega
    by_cases g2 : n' = n
    case neg =>
     have g2' : (n' == n) = false := bqf g2;subst g1;go_wp2_with fail;go_quiet (fail);go_wp2;go_roundw
     case rel => exact ⟨q + 1,by go_num,by omega,_,HG.out _ nq⟩
     case measure => simp [RowKit.intOf];omega
    by_cases g3 : t' = t
    case neg =>
     have g3' : (t'.toList == t.toList) = false := by rw [Lib.toList_data,Lib.toList_data];exact bytes_ne g3
     subst g1 g2;go_wp2_with fail;go_quiet (fail);go_wp2;go_roundw
     case rel => exact ⟨q + 1,by go_num,by omega,_,HG.out _ nq⟩
     case measure => simp [RowKit.intOf];omega
    subst g1 g2 g3;have hnA : ∀ o,NewsIn (wr.alloc o) B7 W1.inner := fun o => HXR.out.2.2.mv (fun x hx => Below.heap_alloc _ _ _ (by omega))
    have hnd : ∀ o nn,NewsIn ((wr.alloc o).drewN nn) B7 W1.inner := fun o nn => hnA o
    have HND := Lib.hid hnd;have hkn2 : ∀ o,(wr.alloc o).cell? (adk.add q) = some (.string kq) := fun o => (World.cell?_alloc_lt wr o _ (World.block_lt_of_cell? wr _ hkn)).trans hkn
    have hwl2 : w.heap.size ≠ wr.heap.size := by omega
    cases hin : inB kq W1.inner with
    | true =>
     go_wp2_with fail
     go_quiet ((go_at_call 50;refine Calls.quiet_of (confIn_c B7 d7 W1.inner kq _ (HND.out _ _) ?_);rw [HF.out.2.1.inner];omega))
     go_wp2;go_roundw
     case rel => exact ⟨q + 1,by go_num,by omega,_,HG.out _ nq⟩
     case measure => simp [RowKit.intOf];omega
    | false =>
     have hkb := HV.out.bare kq (by rw [← HF.out.2.1.known];exact List.mem_of_getElem? hkq);have hkz := hkb.2;have hnb : ¬ 9223372036854775807 < 1 + kq.size := by omega
     go_wp2_with fail
     go_quiet ((go_at_call 50;refine Calls.quiet_of (confIn_c B7 d7 W1.inner kq _ (HND.out _ _) ?_);rw [HF.out.2.1.inner];omega))
     go_wp2_with fail
     have hxq := HXR.out.1.mv (HG1.out (.cells #[.int .i64 k',.int .i64 n',.float .f64 f',.bool is',.string t',.slice a1' m1'' c1',.slice a2' m2'' c2'] 26) nq) (fun _ _ h => h);have htx1 : W1.text.size = W.text.size := by have := HF.out.2.1.size;rw [show (⟨#[]⟩ : ByteArray).size = 0 from rfl] at this;exact this
     have hln1 : W1.line ≤ W.line := by have := HF.out.2.1.line_le;rw [show (⟨#[]⟩ : ByteArray).size = 0 from rfl] at this;exact this
     have hsz : (({ data := #[36] } : ByteArray) ++ kq).size = kq.size + 1 := by rw [bsa];show 1 + kq.size = _;omega
     refine (put_c ⟨_,_,_,_,_,hxq⟩ (({ data := #[36] } : ByteArray) ++ kq) (by rw [hsz];omega) (by omega) (by omega)).mono ?_;rintro e w3 ⟨rfl,h3,m3⟩;obtain ⟨sv3,kn3,va3,us3,inn3,hx3⟩ := h3;have hwp := Wrote.put W1 (({ data := #[36] } : ByteArray) ++ kq);obtain ⟨W2,hW2⟩ : ∃ x,x = W1.put (({ data := #[36] } : ByteArray) ++ kq) := ⟨_,rfl⟩;rw [← hW2] at hx3 hwp;clear hW2;obtain ⟨B3,d3,hkn3⟩ := hx3.kn.shape;obtain ⟨B6,d6,hus3⟩ := hx3.us.shape;subst hkn3 hus3;have s4 : w3.cell? ⟨b,4,none⟩ = some (.slice B3 W2.known.length d3) := hx3.cl.cell 4;have s6 : w3.cell? ⟨b,6,none⟩ = some (.slice B6 W2.used.length d6) := hx3.cl.cell 6;have sf6 := hx3.cl.free 6;have hkq2 : W2.known[q]? = some kq := by rw [hwp.known];exact hkq
     have hkl2 : (q : Int) < (W2.known.length : Int) := by have := (List.getElem?_eq_some_iff.1 hkq2).1;omega
     obtain ⟨ad3,hB3,hk3⟩ := rowNews hx3.kn q kq hkq2;subst hB3;have mA : Mv (fun _ => False) w3 (labr.ext wr.heap.size 45) (w3.alloc (.cells #[.string kq] 9)).drew ((labr.ext wr.heap.size 45).ext w3.heap.size 45) := (Mv.alloc0 w3 _ _ _).trans (Mv.aDraw _ _ _) (fun _ h => h);have hu2 : W2.used.length = W.used.length := by rw [hwp.used,HF.out.2.1.used]
     obtain ⟨us4,w4,hrun4,hr4,hg4,hat4,A4,C4,hs4⟩ := app_str (c := 1) (a := some ⟨w3.heap.size,0,none⟩) (news := [kq]) (hx3.us.mv mA (fun h => h)) (fun i k hk => by
      cases i with
      | zero =>
       simp only [List.getElem?_cons_zero,Option.some.injEq] at hk;subst hk;exact ⟨_,rfl,blk_cell (heap_alloc_new w3 (.cells #[.string kq] 9)) 0⟩
      | succ i => simp at hk) (by rw [hu2];simp only [List.length_cons,List.length_nil];omega)
     subst hs4;have hx3' := hx3.mv mA (fun _ _ h => h);have hu4 := used_set (k := kq) hx3' (Mv.grown hg4 _ 43 (fun k hk => hx3'.us.2 k hk)) hr4;have hbl3 : b < w3.heap.size := lt_of_block hx3.cl.1;have hvk : VarK (envW W.known kj W.inner) kq j (({ data := #[36] } : ByteArray) ++ kq) := by
      refine ⟨?_,hkb.1,rfl⟩;obtain ⟨h1,h2,h3,h4⟩ := HJ.out;obtain ⟨h5,h6,h7,h8⟩ := HKV.out;have hjj : jq = j := by
       rcases h3 with ⟨v,rfl⟩ | ⟨t,rfl⟩
       ·obtain ⟨rfl,rfl⟩ := h1 v rfl
        cases jq <;> simp only [JV.kind] at h7 h4 <;> try omega
        obtain ⟨rfl,_⟩ := h5 _ rfl;rfl
       ·obtain ⟨rfl,rfl⟩ := h2 t rfl
        cases jq <;> simp only [JV.kind] at h7 h4 <;> try omega
        obtain ⟨_,rfl⟩ := h6 _ rfl;rfl
      rw [hjj] at h8;exact envW_mem (by rw [← HF.out.2.1.known];exact hkq) h8 (by rw [← HF.out.2.1.inner];exact of_inB hin)
     have hwall : WroteU W { W2 with used := W2.used ++ [kq] } (({ data := #[36] } : ByteArray) ++ kq) [kq] := by
      have hww := HF.out.2.1.trans hwp;rw [empty_app] at hww;exact ⟨hww.text,hww.bad,hww.line,hww.known,hww.nv,hww.vals,by show W2.used ++ [kq] = _;rw [hww.used],hww.inner,fun x hx => by rw [List.mem_singleton.1 hx,bsa];omega⟩
     have hfin : ∀ nn,VariP lab w b W kj j (.returned (.bool true)) ((w4.setCell ⟨b,6,none⟩ (.slice A4 (W2.used.length + [kq].length) C4)).drewN nn) := fun nn =>
      ⟨true,_,_,[kq],_,rfl,hu4.1.mv ((Mv.refl (fun _ => False) _ _).drewN nn) (fun _ _ h => h),hwall,by rw [hsz];omega,(fun h => by cases h),(fun _ => ⟨kq,rfl,hvk,HJ.out.2.2.1⟩),
       ((((HF.out.2.2.1.trans (HG.out _ nq) (fun _ h => h.elim)).trans (m3.mono (M' := VM) (fun _ h => .inl h)) (fun _ h => h)).trans (mA.mono (M' := VM) (fun _ h => h.elim)) (fun _ h => h)).trans hu4.2 (fun _ h => h)).drewN nn⟩
     have HFIN := Lib.hid hfin;have fb : w4.frozen? ⟨b,6,none⟩ = false := by
      have := (hx3'.cl.mv (M := fun x => x = 43) (Mv.grown hg4 _ 43 (fun k hk => hx3'.us.2 k hk)) (by decide)).free 6;exact this
     obtain ⟨old6,q6w⟩ : ∃ v,w4.cell? ⟨b,6,none⟩ = some v := ⟨_,(hx3'.cl.mv (M := fun x => x = 43) (Mv.grown hg4 _ 43 (fun k hk => hx3'.us.2 k hk)) (by decide)).cell 6⟩;obtain ⟨m4,hm4⟩ : ∃ m,m = W2.used.length + [kq].length := ⟨_,rfl⟩;rw [← hm4] at hrun4 HFIN;have hrun5 : (AppX #[23,23] 23 #[.slice B6 W2.used.length d6,.slice (some ⟨w3.heap.size,0,none⟩) 1 1]).run Tryz.prog (w3.alloc (.cells #[.string kq] 9)).drew = .ok (.slice A4 m4 C4) w4 := hrun4;clear hm4 hu2 hrun4 hfin hwall hvk hu4 hx3' hr4 hg4 hat4 mA hx3 hxq m3 hwp;go_wp2_with fail;go_region;go_wp2;go_ret;exact HFIN.out 0
   ·have hq1 : ¬ ((q : Int) < (W1.nv : Int)) := by omega
    have HG := Lib.hid mr;clear mr;have hfin : VariP lab w b W kj j (.returned (.bool false)) wr := ⟨false,W1,⟨#[]⟩,[],labr,rfl,HF.out.1.mv HG.out (fun _ _ h => h),HF.out.2.1.toU,by decide,(fun _ => ⟨rfl,rfl⟩),(fun h => by cases h),HF.out.2.2.1.trans HG.out (fun _ h => h.elim)⟩;have HFI := Lib.hid hfin;clear hfin;go_wp2;go_ret;exact HFI.out
end
end Go.Cf
namespace Go.Cf
open Go.RowKit Go.Conc Go.Proofs
abbrev f64 := FloatKind.f64.format
theorem read8 : Ieee.double.read 4620693217682128896 = .number false (2 ^ 52) (-49) := by decide
theorem readM : Ieee.double.read 13965043853221167104 = .number true (1000000000 * 2 ^ 23) (-23) := by decide
theorem readP : Ieee.double.read 4741671816366391296 = .number false (1000000000 * 2 ^ 23) (-23) := by decide
theorem f64_eq : FloatKind.f64.format = Ieee.double := rfl
theorem dU_val (s : Bool) (m : Nat) (i : Int) : dU (.number s m i) = (if s then -1 else 1) * ((m : Int) * 2 ^ (i + 1074).toNat) := signed_eq s m _
theorem dUM : dU (Ieee.double.read 13965043853221167104) = -(1000000000 * 2 ^ 1074) := by
 rw [readM,dU_val,show ((-23 : Int) + 1074).toNat = 1051 from rfl,if_pos rfl,show (2 : Int) ^ 1074 = 2 ^ 23 * 2 ^ 1051 from by rw [← Int.pow_add]];generalize (2 : Int) ^ 1051 = z;simp only [Int.natCast_mul,Int.natCast_pow];omega
theorem dUP : dU (Ieee.double.read 4741671816366391296) = 1000000000 * 2 ^ 1074 := by
 rw [readP,dU_val,show ((-23 : Int) + 1074).toNat = 1051 from rfl,if_neg (by decide),show (2 : Int) ^ 1074 = 2 ^ 23 * 2 ^ 1051 from by rw [← Int.pow_add]];generalize (2 : Int) ^ 1051 = z;simp only [Int.natCast_mul,Int.natCast_pow];omega
theorem read_word0 (s : Bool) : Ieee.double.read (Ieee.double.word s 0) = .number s 0 (-1074) := by cases s <;> decide
theorem read_bound {b : Nat} {s : Bool} {m : Nat} {i : Int} (h : Ieee.double.read b = .number s m i) : m < 2 ^ 53 ∧ -1074 ≤ i := by
 unfold Ieee.Format.read at h;have hbi : Ieee.double.binade = 2 ^ 52 := by decide
 have hlp : Ieee.double.leastPlace = -1074 := by decide
 dsimp only at h
 rw [hbi,hlp] at h
 split at h
 ·cases h
  exact ⟨by omega,by omega⟩
 ·split at h
  ·cases h
   exact ⟨by omega,by omega⟩
  ·split at h <;> cases h
theorem near_fin (neg : Bool) (m : Nat) (t : Nat) (place : Int) (hm : m < 2 ^ 53) (hp : -1074 ≤ place + t) :
  (dFin (Ieee.double.read (Ieee.double.nearest neg (m * 2 ^ t) place)) ∧ dU (Ieee.double.read (Ieee.double.nearest neg (m * 2 ^ t) place)) = (if neg then -1 else 1) * ((m : Int) * 2 ^ (place + t + 1074).toNat)) ∨
  (Ieee.double.read (Ieee.double.nearest neg (m * 2 ^ t) place) = .infinity neg ∧ 0 < m ∧ 1024 ≤ place + t + m.log2) := by
 rcases Nat.eq_zero_or_pos m with h0 | h0
 ·subst h0;refine .inl ?_;have : Ieee.double.nearest neg (0 * 2 ^ t) place = Ieee.double.word neg 0 := by
   unfold Ieee.Format.nearest;rw [if_pos (by simp)]
  rw [this,read_word0];refine ⟨by show (-1074 : Int) ≤ -1074;omega,?_⟩;rw [dU_val];simp
 ·rcases nearest_exact neg m t place h0 hm hp with ⟨_,E,kept,h1,h2⟩ | ⟨h1,h2⟩
  ·refine .inl ?_;rw [h1];refine ⟨by show (-1074 : Int) ≤ -1074 + (E : Int);omega,?_⟩;rw [dU_val,show ((-1074 : Int) + (E : Int) + 1074).toNat = E from by omega];have h3 : ((kept * 2 ^ E : Nat) : Int) = ((m * 2 ^ (place + t + 1074).toNat : Nat) : Int) := by rw [h2]
   rw [Int.natCast_mul,Int.natCast_mul,Int.natCast_pow,Int.natCast_pow] at h3;exact congrArg (fun x => (if neg = true then -1 else 1) * x) h3
  ·exact .inr ⟨h1,h0,h2⟩
theorem mul8 {f : Nat} (hf : f64.order f f = some .eq) : ∃ e8,floatBits .mul .f64 f 4620693217682128896 = some e8 ∧ ((dFin (Ieee.double.read f) ∧ dFin (Ieee.double.read e8) ∧ dU (Ieee.double.read e8) = 8 * dU (Ieee.double.read f)) ∨ ∃ s,Ieee.double.read e8 = .infinity s) := by
 unfold floatBits;simp only;rw [f64_eq];unfold Ieee.Format.mul;rw [read8];rcases read_fin f with h | ⟨s,h⟩ | ⟨s,t,h⟩
 ·rw [f64_eq] at h
  cases hr : Ieee.double.read f with
  | nan => rw [hr] at h;exact h.elim
  | infinity => rw [hr] at h;exact h.elim
  | number s m i =>
   obtain ⟨hm,hi⟩ := read_bound hr;refine ⟨_,rfl,?_⟩;show (_ ∧ dFin (Ieee.double.read (Ieee.double.nearest (s ^^ false) (m * 2 ^ 52) (i + -49))) ∧ _) ∨ _;rw [Bool.xor_false];rcases near_fin s m 52 (i + -49) hm (by omega) with ⟨h1,h2⟩ | ⟨h1,_⟩
   ·refine .inl ⟨hi,h1,?_⟩;show dU (Ieee.double.read (Ieee.double.nearest s (m * 2 ^ 52) (i + -49))) = _;rw [h2,dU_val,show (i + -49 + (52 : Nat) + 1074).toNat = (i + 1074).toNat + 3 from by omega,Int.pow_add];generalize (2 : Int) ^ (i + 1074).toNat = z;rw [← Int.mul_assoc (m : Int)];generalize (m : Int) * z = y
    cases s <;> simp <;> omega
   ·refine .inr ⟨s,?_⟩;exact h1
 ·rw [f64_eq] at h;rw [h];refine ⟨_,rfl,.inr ⟨s,?_⟩⟩;show Ieee.double.read (Ieee.double.word (s ^^ false) Ieee.double.infRung) = _
  cases s <;> decide
 ·exfalso
  have : f64.order f f = none := by
   show (Ieee.Format.order _ _ _) = none
   unfold Ieee.Format.order;rw [h];rfl
  rw [this] at hf;cases hf
theorem dU_int {n : Int} (h0 : -1000000000 < n) (h1 : n < 1000000000) : dFin (Ieee.double.read (floatOfInt .f64 n)) ∧ dU (Ieee.double.read (floatOfInt .f64 n)) = n * 2 ^ 1074 := by
 have e : floatOfInt .f64 n = Ieee.double.nearest (n < 0) (n.natAbs * 2 ^ 0) 0 := by
  show Ieee.double.nearest (n < 0) n.natAbs 0 = _
  rw [Nat.pow_zero,Nat.mul_one]
 rw [e];rcases near_fin (n < 0) n.natAbs 0 0 (by omega) (by omega) with ⟨h2,h3⟩ | ⟨h2,h3⟩
 ·refine ⟨h2,?_⟩;rw [h3,show ((0 : Int) + ((0 : Nat) : Int) + 1074).toNat = 1074 from rfl];generalize (2 : Int) ^ 1074 = z;by_cases hn : n < 0
  ·rw [if_pos (by simpa using hn),show (n.natAbs : Int) = -n from by omega,Int.neg_mul,Int.one_mul,Int.neg_mul,Int.neg_neg]
  ·rw [if_neg (by simpa using hn),show (n.natAbs : Int) = n from by omega,Int.one_mul]
 ·exfalso
  have hl : n.natAbs.log2 < 30 := (Nat.log2_lt (by omega)).2 (by omega);omega
theorem cast_pow_le (a b x y : Nat) (h : a * 2 ^ x ≤ b * 2 ^ y) : (a : Int) * 2 ^ x ≤ (b : Int) * 2 ^ y := by
 have h3 : ((a * 2 ^ x : Nat) : Int) ≤ ((b * 2 ^ y : Nat) : Int) := Int.ofNat_le.2 h;rw [Int.natCast_mul,Int.natCast_mul,Int.natCast_pow,Int.natCast_pow] at h3;exact h3
theorem cut_le (s : Bool) (m : Nat) (i : Int) (K : Nat) (hi : -(K : Int) ≤ i) : Ieee.Toward.zero.cut s (m <<< i.toNat) (-i).toNat * 2 ^ K ≤ m * 2 ^ (i + K).toNat := by
 unfold Ieee.Toward.cut;simp only [Bool.toNat_false,Nat.add_zero,Nat.shiftLeft_eq,Nat.one_mul];rcases Int.le_total 0 i with h | h
 ·rw [show (-i).toNat = 0 from by omega,Nat.zero_min,Nat.pow_zero,Nat.div_one,show (i + K).toNat = i.toNat + K from by omega,Nat.pow_add,Nat.mul_assoc];exact Nat.le_refl _
 ·rw [show i.toNat = 0 from by omega,Nat.pow_zero,Nat.mul_one];rcases Nat.le_total (-i).toNat (m.log2 + 2) with h2 | h2
  ·rw [Nat.min_eq_left h2];have e : K = (-i).toNat + (i + K).toNat := by omega
   calc m / 2 ^ (-i).toNat * 2 ^ K = m / 2 ^ (-i).toNat * (2 ^ (-i).toNat * 2 ^ (i + K).toNat) := by rw [← Nat.pow_add,← e]
    _ = m / 2 ^ (-i).toNat * 2 ^ (-i).toNat * 2 ^ (i + K).toNat := by rw [Nat.mul_assoc]
    _ ≤ m * 2 ^ (i + K).toNat := Nat.mul_le_mul_right _ (Nat.div_mul_le_self _ _)
  ·rw [Nat.min_eq_right h2];have : m < 2 ^ (m.log2 + 2) := Nat.lt_of_lt_of_le Nat.lt_log2_self (Nat.pow_le_pow_right (by decide) (by omega));rw [Nat.div_eq_of_lt this,Nat.zero_mul];exact Nat.zero_le _
theorem toInt_small {e : Nat} (hd : dFin (Ieee.double.read e)) (h0 : -(1000000000 * 2 ^ 1074) < dU (Ieee.double.read e)) (h1 : dU (Ieee.double.read e) < 1000000000 * 2 ^ 1074) :
  ∃ n : Int,floatToIntVal .f64 e .i64 = some n ∧ -1000000000 < n ∧ n < 1000000000 := by
 cases hr : Ieee.double.read e with
 | nan => rw [hr] at hd;exact hd.elim
 | infinity => rw [hr] at hd;exact hd.elim
 | number s m i =>
  rw [hr] at hd h0 h1;have hi : -1074 ≤ i := hd;rw [dU_val] at h0 h1;obtain ⟨c,hc⟩ : ∃ c,Ieee.Toward.zero.cut s (m <<< i.toNat) (-i).toNat = c := ⟨_,rfl⟩;have hz := pow2_pos 1074;have key : (c : Int) * 2 ^ 1074 ≤ (m : Int) * 2 ^ (i + 1074).toNat := by
   have hkN : c * 2 ^ 1074 ≤ m * 2 ^ (i + (1074 : Nat)).toNat := by
    rw [← hc];exact cut_le s m i 1074 hi
   exact cast_pow_le _ _ _ _ hkN
  have hcb : (c : Int) < 1000000000 := by
   refine Int.lt_of_mul_lt_mul_right (a := (2 : Int) ^ 1074) (Int.lt_of_le_of_lt key ?_) (Int.le_of_lt hz);generalize (2 : Int) ^ 1074 = z at *;generalize (m : Int) * 2 ^ (i + 1074).toNat = y at *
   cases s
   ·simp at h1;omega
   ·simp at h0;omega
  have hti : (FloatKind.f64.decode e).toInt .zero = some (Ieee.signed s c 0) := by
   show (Ieee.double.read e).toInt .zero = _
   rw [hr];unfold Ieee.Datum.toInt Ieee.Datum.integral;simp only [hc]
  have hsg : Ieee.signed s c 0 = (if s then -1 else 1) * (c : Int) := by rw [signed_eq,Int.pow_zero,Int.mul_one]
  refine ⟨Ieee.signed s c 0,?_,?_,?_⟩
  ·unfold floatToIntVal;rw [hti];simp only;rw [if_pos];rw [hsg];have e1 : IntKind.i64.min = -9223372036854775808 := by decide
   have e2 : IntKind.i64.max = 9223372036854775807 := by decide
   rw [e1,e2]
   cases s <;> simp <;> omega
  ·rw [hsg];cases s <;> simp <;> omega
  ·rw [hsg];cases s <;> simp <;> omega
def ancs (l : List Oper) : Nat → List Nat → List Nat
 | 0,s => s
 | n + 1,s => ancs l n (s ++ s.flatMap fun i => ((l[i]?).map fun o => (o.after.toList.filter fun e => Region.binds .any e).map (·.on)).getD [])
theorem ancs_all {l : List Oper} {p : Nat → Prop} (h : ∀ i o,l[i]? = some o → p i → ∀ e ∈ o.after,Region.binds .any e = true → p e.on) : ∀ (n : Nat) (s : List Nat),(∀ i ∈ s,p i) → ∀ i ∈ ancs l n s,p i
 | 0,s,hs,i,hi => hs i hi
 | n + 1,s,hs,i,hi => by
  refine ancs_all h n _ (fun k hk => ?_) i hi;rcases List.mem_append.1 hk with hk | hk
  ·exact hs k hk
  ·obtain ⟨x,hx,hkx⟩ := List.mem_flatMap.1 hk
   cases ho : l[x]? with
   | none => rw [ho] at hkx;cases hkx
   | some o =>
    rw [ho] at hkx;simp only [Option.map_some,Option.getD_some] at hkx;obtain ⟨e,he,rfl⟩ := List.mem_map.1 hkx;obtain ⟨he1,he2⟩ := List.mem_filter.1 he;exact h x o ho (hs x hx) e (by simpa using he1) he2
section
variable {P : Program} {Q : Exit → Act → World → Prop}
theorem wp_region_call {id : Nat} {l : List Oper} {a : Act} {w : World} (C : Nat → Value → Lab → World → Prop) (R : Lab → World → World → Prop) (lo m : Nat) (lab : Lab) (hm : P.follows .mixedOrders = true)
  (hdep : (List.range l.length).all (fun i => ((l[i]?).map fun o => o.after.all fun e => !Region.binds .any e || decide (e.on < i)).getD true) = true)
  (hlen : l.length = m + 1) (hlo : lo + m < a.tmps.size)
  (hdst : (List.range m).all (fun i => ((l[i]?).map fun o => o.dst == some (lo + i) && o.guard.isNone).getD true) = true)
  (hlast : ((l[m]?).map fun o => o.dst == some (lo + m) && o.guard.isNone).getD false = true) (hanc : (List.range m).all (fun k => (ancs l 6 [m]).contains k) = true)
  (hd0 : a.defers = [])
  (hC : ∀ k v lab w lab' w',C k v lab w → Mv (fun _ => False) w lab w' lab' → C k v lab' w')
  (hstep : ∀ L a' lab' w' i o,i < m → l[i]? = some o → (∀ e ∈ o.after,Region.binds .any e = true → L.getD e.on false = true) → BlAt C (lo + ·) a w lab m L a' lab' w' → Does P o a' lab' w' (C i))
  (hst : ∀ (a' : Act) lab' w' o,l[m]? = some o → (∀ k,k < m → C k (a'.tmps.getD (lo + k) undef) lab' w') → (∀ j,¬ (lo ≤ j ∧ j < lo + m) → a'.tmps.getD j undef = a.tmps.getD j undef) → Mv (fun _ => False) w lab w' lab' → ∃ f args,(execOp a'.eval o).run P w' = .ok (.enter f args) w' ∧ Calls P f args w' fun e w2 => ∃ v,e = .returned v ∧ R lab' w' w2)
  (hend : ∀ us lab' w' w2,us.length = m + 1 → Mv (fun _ => False) w lab w' lab' → R lab' w' w2 → Q .normal ⟨(a.tmps.toList.take lo ++ (us ++ a.tmps.toList.drop (lo + (m + 1)))).toArray,[]⟩ w2) :
  (Code.region id l.toArray true).wp P Q a w := by
 have hd : ∀ i o,i < m → l[i]? = some o → o.dst = some (lo + i) ∧ o.guard = none := by
  intro i o hi ho;have h1 := List.all_eq_true.1 hdst i (List.mem_range.2 hi);rw [ho] at h1;simpa using h1
 have hrep : ∀ i,(Array.replicate l.length false).getD i false = false := fun i => by
  rw [gdg,Array.getElem?_replicate]
  split <;> rfl
 refine wp_region_inv (fun L a' w' => (L.getD m false = false ∧ (∀ i o,l[i]? = some o → L.getD i false = true → ∀ e ∈ o.after,Region.binds .any e = true → L.getD e.on false = true) ∧ ∃ lab',BlAt C (lo + ·) a w lab m L a' lab' w') ∨
  ((∀ k,k < m → L.getD k false = true) ∧ L.getD m false = true ∧ a'.defers = [] ∧ a'.tmps.size = a.tmps.size ∧ (∀ j,¬ (lo ≤ j ∧ j < lo + (m + 1)) → a'.tmps.getD j undef = a.tmps.getD j undef) ∧ ∃ lab1 w1,Mv (fun _ => False) w lab w1 lab1 ∧ R lab1 w1 w')) hm hdep ?_ ?_ ?_
 ·exact .inl ⟨hrep m,fun i o _ h => (by rw [hrep] at h;cases h),lab,hd0,rfl,fun _ _ => rfl,⟨rfl,rfl,rfl,Nat.le_refl _,fun _ _ _ => rfl,fun _ _ _ => rfl⟩,fun k hk h => by rw [hrep] at h;cases h⟩
 ·rintro L a' w' i o hL ho hf hall hI;have hi : i < m + 1 := by rw [← hlen];exact (List.getElem?_eq_some_iff.1 ho).1
  have hsz : L.size = m + 1 := by rw [hL,hlen]
  have hf2 : L.getD i false = false := by
   rw [gdg] at hf ⊢
   cases hc : L[i]? with
   | none => rfl
   | some x => rw [hc] at hf;exact hf
  have hg := fun j => getD_set2 L i j (by omega)
  have hmono : ∀ j,L.getD j false = true → (L.setIfInBounds i true).getD j false = true := fun j h => by
   rw [hg]
   split
   ·rfl
   ·exact h
  rcases hI with ⟨hm0,hcl,lab',hb⟩ | ⟨hk,hm1,_⟩
  ·rcases Nat.lt_or_ge i m with him | him
   ·obtain ⟨h1,h2⟩ := hd i o him ho;have hs := hstep L a' lab' w' i o him ho hall hb;have key : ∀ v lab2 w2,Mv (fun _ => False) w' lab' w2 lab2 → C i v lab2 w2 → (L.setIfInBounds i true).getD m false = false ∧ (∀ i' o,l[i']? = some o → (L.setIfInBounds i true).getD i' false = true → ∀ e ∈ o.after,Region.binds .any e = true → (L.setIfInBounds i true).getD e.on false = true) ∧ ∃ lab3,BlAt C (lo + ·) a w lab m (L.setIfInBounds i true) (a'.put o.dst v) lab3 w2 := by
     intro v lab2 w2 mv hc;rw [h1];have hsz : lo + i < a'.tmps.size := by rw [hb.size];omega
     have hcl2 : ∀ i' o,l[i']? = some o → (L.setIfInBounds i true).getD i' false = true → ∀ e ∈ o.after,Region.binds .any e = true → (L.setIfInBounds i true).getD e.on false = true := by
      intro i' o' ho' hi' e he hbe;rw [hg] at hi'
      split at hi'
      ·next h =>
       subst h;rw [ho] at ho'
       cases ho'
       exact hmono _ (hall e he hbe)
      ·exact hmono _ (hcl i' o' ho' hi' e he hbe)
     refine ⟨by rw [hg,if_neg (by omega)];exact hm0,hcl2,lab2,hb.defers,by simpa [Act.put] using hb.size,fun j hj => ?_,hb.mv.trans mv (fun _ h => h),fun k hk hlk => ?_⟩
     ·rw [put_getD hsz,if_neg (fun e => hj i him e.symm)];exact hb.keep j hj
     ·show C k ((a'.put (some (lo + i)) v).tmps.getD (lo + k) undef) lab2 w2
      rw [put_getD hsz];by_cases hki : k = i
      ·subst hki;rw [if_pos rfl];exact hc
      ·rw [if_neg (by omega)];rw [hg,if_neg hki] at hlk;exact hC k _ _ _ _ _ (hb.got k hk hlk) mv
    have hw : Region.wanted o (yielded l.toArray a'.tmps) = true := by simp [Region.wanted,h2]
    unfold wpOp;simp only [List.getElem?_toArray,ho,hw,if_true]
    left
    unfold Oper.wp;rcases hs with ⟨v,w2,lab2,hrun,mv,hc⟩ | ⟨f,args,hrun,hcalls⟩
    ·rw [hrun];exact .inl (key v lab2 w2 mv hc)
    ·rw [hrun,Oper.upon_enter];refine hcalls.mono ?_;rintro e w2 ⟨v,lab2,rfl,mv,hc⟩;exact .inl (key v lab2 w2 mv hc)
   ·have him' : i = m := by omega
    subst him';rw [ho] at hlast;simp only [Option.map_some,Option.getD_some,Bool.and_eq_true,Option.isNone_iff_eq_none,beq_iff_eq] at hlast;obtain ⟨h1,h2⟩ := hlast;have hal : ∀ k,k < i → L.getD k false = true := by
     intro k hk;have h4 := List.all_eq_true.1 hanc k (List.mem_range.2 hk);have h5 : k ∈ ancs l 6 [i] := by simpa using h4
     have h6 := ancs_all (l := l) (p := fun x => x = i ∨ L.getD x false = true) (fun x o' ho' hx e he hbe => by
      rcases hx with rfl | hx
      ·rw [ho] at ho'
       cases ho'
       exact .inr (hall e he hbe)
      ·exact .inr (hcl x o' ho' hx e he hbe)) 6 [i] (fun x hx => .inl (by simpa using hx)) k h5
     rcases h6 with h6 | h6
     ·omega
     ·exact h6
    have hkeep : ∀ j,¬ (lo ≤ j ∧ j < lo + i) → a'.tmps.getD j undef = a.tmps.getD j undef := fun j hj => hb.keep j (fun k hk e => hj (by have e' : lo + k = j := e;omega))
    obtain ⟨f,args,hrun,hcl2⟩ := hst a' lab' w' o ho (fun k hk => hb.got k hk (hal k hk)) hkeep hb.mv;have hw : Region.wanted o (yielded l.toArray a'.tmps) = true := by simp [Region.wanted,h2]
    unfold wpOp;simp only [List.getElem?_toArray,ho,hw,if_true]
    left
    unfold Oper.wp;rw [hrun,Oper.upon_enter];refine hcl2.mono ?_;rintro e w2 ⟨v,rfl,hR⟩;have hsz : lo + i < a'.tmps.size := by rw [hb.size];exact hlo
    rw [h1];refine .inr ⟨fun k hk => by rw [hg,if_neg (by omega)];exact hal k hk,by rw [hg,if_pos rfl],hb.defers,by simpa [Act.put] using hb.size,fun j hj => ?_,lab',w',hb.mv,hR⟩;rw [put_getD hsz,if_neg (by omega)];exact hkeep j (by omega)
  ·rcases Nat.lt_or_ge i m with him | him
   ·rw [hk i him] at hf2;cases hf2
   ·have : i = m := by omega
    subst this;rw [hm1] at hf2;cases hf2
 ·rintro L a' w' hL hall hI;rcases hI with ⟨hm0,_,_⟩ | ⟨_,_,hdf,hsz,hkeep,lab1,w1,mv,hR⟩
  ·rw [hall m (by omega)] at hm0;cases hm0
  ·obtain ⟨us,hu,ht⟩ := frame_range a'.tmps a.tmps lo (m + 1) hsz (by omega) hkeep;have := hend us lab1 w1 w' hu mv hR;obtain ⟨t,d⟩ := a';simp only at hdf ht this;subst hdf;rw [ht];exact this
end
attribute [local go_sem] run_store_flt
section
variable {lab lab1 : Lab} {w w1 : World} {b : Nat} {W W1 W2 : CW} {T T2 : ByteArray}
def frRow : Array Value := #[.string ⟨#[48,48,48]⟩,.string ⟨#[49,50,53]⟩,.string ⟨#[50,53,48]⟩,.string ⟨#[51,55,53]⟩,.string ⟨#[53,48,48]⟩,.string ⟨#[54,50,53]⟩,.string ⟨#[55,53,48]⟩,.string ⟨#[56,55,53]⟩]
theorem fr_get (r : Nat) (h : r < 8) : frRow[r]? = some (.string (frT r)) := by
 match r,h with
 | 0,_ | 1,_ | 2,_ | 3,_ | 4,_ | 5,_ | 6,_ | 7,_ => rfl
def CNu (b a q r : Nat) : Nat → Value → Lab → World → Prop
 | 0,v,_,_ => v = .pointer (some ⟨b,0,none⟩)
 | 1,v,_,_ => v = .int .i64 a
 | 2,v,_,_ => v = .int .i64 (q : Int)
 | 3,v,_,_ => v = .string (decB (q))
 | 4,v,_,_ => v = .string (decB (q) ++ ({ data := #[46] } : ByteArray))
 | 5,v,lab,w => ∃ g,v = .slice (some ⟨g,0,none⟩) 8 8 ∧ Cl 45 lab w g frRow 9
 | 6,v,_,_ => v = .int .i64 a
 | 7,v,_,_ => v = .int .i64 (r : Int)
 | 8,v,lab,w => ∃ g,v = .pointer (some ⟨g,r,none⟩) ∧ Cl 45 lab w g frRow 9
 | 9,v,_,_ => v = .string (frT (r))
 | 10,v,_,_ => v = .string (decB (q) ++ ({ data := #[46] } : ByteArray) ++ frT (r))
 | _,_,_,_ => True
theorem CNu.mv {a q r k : Nat} {v : Value} {w' : World} {lab' : Lab} (h : CNu b a q r k v lab w) (m : Mv (fun _ => False) w lab w' lab') : CNu b a q r k v lab' w' := by
 match k,h with
 | 0,h | 1,h | 2,h | 3,h | 4,h | 6,h | 7,h | 9,h | 10,h => exact h
 | 5,h => obtain ⟨g,h1,h2⟩ := h;exact ⟨g,h1,h2.mv m (fun h => h)⟩
 | 8,h => obtain ⟨g,h1,h2⟩ := h;exact ⟨g,h1,h2.mv m (fun h => h)⟩
 | k + 11,_ => trivial
def NumbP (lab : Lab) (w : World) (b : Nat) (W : CW) (f : Nat) (e : Ending) (w' : World) : Prop := e = .returned (.tuple #[]) ∧ ∃ W' T lab',WAt lab' w' b W' ∧ Wrote W W' T ∧ T.size ≤ 30 ∧ (W'.bad = false → NumT f T) ∧ Mv (· = 40) w lab w' lab'
def EiOk (f : Nat) (n : Int) : Prop := -1000000000 < n ∧ n < 1000000000 ∧ dFin (FloatKind.f64.format.read f) ∧ dU (FloatKind.f64.format.read f) = n * 2 ^ 1071
theorem frT_size (r : Nat) (h : r < 8) : (frT r).size = 3 := by
 match r,h with
 | 0,_ | 1,_ | 2,_ | 3,_ | 4,_ | 5,_ | 6,_ | 7,_ => rfl
set_option maxRecDepth 100000 in
set_option maxHeartbeats 4000000 in
theorem number_c (h : WAt lab w b W) (f : Nat) (hf : FloatKind.f64.format.order f f = some .eq) (ht : W.text.size ≤ 900000000) (hl : W.line ≤ 900000000) : Calls Tryz.prog 44 #[.pointer (some ⟨b,0,none⟩),.float .f64 f] w (NumbP lab w b W f) := by
 obtain ⟨e8,h8,hcase⟩ := mul8 hf;have hmul : ∀ w,(binOp .mul 22 (.float .f64 f) (.float .f64 4620693217682128896)).run Tryz.prog w = .ok (.float .f64 e8) w := fun w => run_float_arith w .mul 22 .f64 f _ e8 h8
 have HM := Lib.hid (Mv.refl (fun x => x = 40) w lab);have HK := Lib.hid h;have HC := Lib.hid hcase;clear h8 hcase hf;go_enter Tryz.func44,Tryz.ntmps44;go_upto_region 1 with fail
 go_cut [4] from 6 to 34 (fun s4 wx => s4 = .float .f64 e8 ∧ ∃ x,WAt lab wx b (W.flag x) ∧ Mv (· = 40) w lab wx lab ∧ (x = false → W.bad = false ∧ ∃ n,floatToIntVal .f64 e8 .i64 = some n ∧ EiOk f n))
 case first =>
  have c3 := h.c3;have f3 := h.f3
  cases hb : W.bad with
  | true =>
   rw [hb] at c3;go_wp2_with fail;go_meet
   case rel => exact ⟨rfl,true,(h.flag true).1,(h.flag true).2,fun h => by cases h⟩
  | false =>
   rw [hb] at c3
   cases hg : (FloatKind.f64.format.order e8 13965043853221167104 == some .gt) with
   | false =>
    go_wp2_with fail
    go_meet
    case rel => exact ⟨rfl,true,(h.flag true).1,(h.flag true).2,fun h => by cases h⟩
   | true =>
    cases hlt : (FloatKind.f64.format.order e8 4741671816366391296 == some .lt) with
    | false =>
     go_wp2_with fail
     go_meet
     case rel => exact ⟨rfl,true,(h.flag true).1,(h.flag true).2,fun h => by cases h⟩
    | true =>
     have hfin : dFin (Ieee.double.read f) ∧ dFin (Ieee.double.read e8) ∧ dU (Ieee.double.read e8) = 8 * dU (Ieee.double.read f) := by
      rcases HC.out with h | ⟨s,h⟩
      ·exact h
      ·exfalso
       rw [beq_iff_eq] at hg hlt;have e1 : (Ieee.double.read e8).order (Ieee.double.read 13965043853221167104) = some .gt := hg;have e2 : (Ieee.double.read e8).order (Ieee.double.read 4741671816366391296) = some .lt := hlt;rw [h,readM] at e1;rw [h,readP] at e2;cases s
       ·cases e2
       ·cases e1
     have hcm : dFin (Ieee.double.read 13965043853221167104) := by rw [readM];show (-1074 : Int) ≤ -23;omega
     have hcp : dFin (Ieee.double.read 4741671816366391296) := by rw [readP];show (-1074 : Int) ≤ -23;omega
     have b0 := order_gt hfin.2.1 hcm (by rw [beq_iff_eq] at hg;exact hg);have b1 := order_lt hfin.2.1 hcp (by rw [beq_iff_eq] at hlt;exact hlt);rw [dUM] at b0;rw [dUP] at b1;obtain ⟨n,hn,n0,n1⟩ := toInt_small hfin.2.1 b0 b1;have hci : ∀ w,(convert 22 3 (.float .f64 e8)).run Tryz.prog w = .ok (.int .i64 n) w := fun w => run_convert_float_int w 22 3 .f64 .i64 e8 n (by rw [Tryz.underlying22];rfl) Tryz.underlying3 hn
     have hx : ∀ x : Bool,(FloatKind.f64.format.order e8 (floatOfInt .f64 n) != some .eq) = x → (x = false → W.bad = false ∧ ∃ n,floatToIntVal .f64 e8 .i64 = some n ∧ EiOk f n) := by
      rintro x hx rfl;refine ⟨hb,n,hn,n0,n1,hfin.1,?_⟩;have hnb : FloatKind.f64.format.order e8 (floatOfInt .f64 n) = some .eq := by simpa using hx
      have hdi := dU_int n0 n1;have he : dU (Ieee.double.read e8) = dU (Ieee.double.read (floatOfInt .f64 n)) := (order_eq hfin.2.1 hdi.1).1 hnb;rw [hfin.2.2,hdi.2,show (2 : Int) ^ 1074 = 2 ^ 1071 * 8 from by rw [show (8 : Int) = 2 ^ 3 from rfl,← Int.pow_add]] at he;show dU (Ieee.double.read f) = n * 2 ^ 1071;generalize (2 : Int) ^ 1071 = z at he ⊢;rw [← Int.mul_assoc] at he;generalize n * z = y at he ⊢;omega
     have HX := Lib.hid hx;clear hx b0 b1 n0 n1 hfin hcm hcp hn
     cases hq : (FloatKind.f64.format.order e8 (floatOfInt .f64 n) != some .eq) with
     | true =>
      go_wp2_with fail
      go_meet
      case rel => exact ⟨rfl,true,(h.flag true).1,(h.flag true).2,fun h => by cases h⟩
     | false =>
      go_wp2_with fail
      go_meet
      case rel => exact ⟨rfl,false,(h.flag false).1,(h.flag false).2,HX.out false hq⟩
 case rest =>
  obtain ⟨rfl,x,h1,m1,hx⟩ := hcut;have c3 := h1.c3
  cases x with
  | true =>
   have hfin : NumbP lab w b W f (.returned (.tuple #[])) wc := ⟨rfl,_,⟨#[]⟩,_,h1,Wrote.flag W true (fun e => by cases e),by decide,(fun e => by cases e),m1⟩;have HF := Lib.hid hfin;clear hfin h1 m1 hx h HC HM;go_wp2;refine bodyPost_ret (results_none rfl _ _ _) rfl ?_;exact HF.out
  | false =>
   obtain ⟨hb,n,hn,hei⟩ := hx rfl;have hci : ∀ w,(convert 22 3 (.float .f64 e8)).run Tryz.prog w = .ok (.int .i64 n) w := fun w => run_convert_float_int w 22 3 .f64 .i64 e8 n (by rw [Tryz.underlying22];rfl) Tryz.underlying3 hn
   have hn0 := hei.1;have hn1 := hei.2.1;have HE := Lib.hid (aI hei (aI m1 (Wrote.flag W false (fun _ => hb))));clear hn hx hei hmul HC HM h m1;go_upto_region 4 with fail
   go_upto_if 38 with fail
   go_cut [5] from 38 to 43 (fun s5 wx => ∃ (a : Nat) (W2 : CW) (sg : ByteArray),s5 = .int .i64 a ∧ a = n.natAbs ∧ sg = (if n < 0 then ⟨#[45]⟩ else ⟨#[]⟩) ∧ WAt lab wx b W2 ∧ Wrote W W2 sg ∧ Mv (· = 40) w lab wx lab)
   case first =>
    by_cases hneg : n < 0
    ·have d1 : decide (n < 0) = true := decide_eq_true hneg;have hng : -n = ((n.natAbs : Nat) : Int) := by omega
     have HNG := Lib.hid hneg;go_wp2_with fail;refine (put_c h1 ⟨#[45]⟩ (by decide) (by show W.text.size ≤ _;omega) (by show W.line ≤ _;omega)).mono ?_;rintro e w3 ⟨rfl,h3,m3⟩;have hw3 := HE.out.2.2.trans (Wrote.put (W.flag false) ⟨#[45]⟩);rw [empty_app] at hw3;have HW3 := Lib.hid (aI h3 (aI hw3 (HE.out.2.1.trans m3 (fun _ h => h))));clear h3 hw3 m3;go_wp2_with fail;go_meet
     case rel => exact ⟨n.natAbs,_,⟨#[45]⟩,rfl,rfl,by rw [if_pos HNG.out],HW3.out.1,HW3.out.2.1,HW3.out.2.2⟩
    ·have d1 : decide (n < 0) = false := decide_eq_false hneg;go_wp2_with fail;go_meet
     case rel => exact ⟨n.natAbs,W.flag false,⟨#[]⟩,by rw [show ((n.natAbs : Nat) : Int) = n from by omega],rfl,by rw [if_neg (by omega)],h1,HE.out.2.2,HE.out.2.1⟩
   case rest =>
    obtain ⟨a,W2,sg,rfl,ha,hsg,h2,hw2,m2⟩ := hcut;have ha9 : a < 1000000000 := by omega
    have hsz2 := hw2.size;have hln2 := hw2.line_le;have hsgs : sg.size ≤ 1 := by rw [hsg];split <;> decide
    have hlen8 : a / 8 ≤ 1000000 * 1000 := by omega
    have HF := Lib.hid (aI h2 (aI hw2 (aI m2 (aI ha hsg))));clear hci hw2 h2 m2 ha hsg h1;obtain ⟨q,hq⟩ : ∃ q,q = a / 8 := ⟨_,rfl⟩;obtain ⟨r,hr⟩ : ∃ r,r = a % 8 := ⟨_,rfl⟩;have hq9 : q ≤ 1000000000 := by omega
    have hr8 : r < 8 := by omega
    have hr8i : ¬ (8 : Int) ≤ (r : Int) := by omega
    have hqw : IntKind.i64.wrap ((a : Int) / 8) = (q : Int) := by
     rw [show (a : Int) / 8 = (q : Int) from by omega];exact Lib.wrap_i64_small _ (by omega)
    have hrt : (a : Int).tmod 8 = (r : Int) := by
     rw [Int.tmod_eq_emod_of_nonneg (by omega)];omega
    have HQR := Lib.hid (aI hq hr);clear hq hr;go_wp2_with fail;refine wp_region_call (CNu b a q r) (fun lab' w' w2 => ∃ W3 T,WAt lab' w2 b W3 ∧ Wrote W2 W3 T ∧ T = decB q ++ ({ data := #[46] } : ByteArray) ++ frT r ∧ Mv (· = 40) w' lab' w2 lab') 43 11 lab mixed (by kernel_rfl) rfl (show 43 + 11 < 55 by omega) (by kernel_rfl) (by kernel_rfl) (by kernel_rfl) rfl (fun k v l1 w1 l2 w2 h m => CNu.mv h m) ?_ ?_ ?_
    ·intro L a' lab' w' i o hi ho hall hb;have k0 : a'.tmps.getD 0 undef = Value.pointer (some ⟨b,0,none⟩) := hb.keep 0 (fun k hk e => by have e' : 43 + k = 0 := e;omega);have k5 : a'.tmps.getD 5 undef = Value.int .i64 a := hb.keep 5 (fun k hk e => by have e' : 43 + k = 5 := e;omega)
     match i,ho with
     | 0,rfl => exact .inl ⟨_,_,lab',rfl,Mv.refl _ _ _,k0⟩
     | 1,rfl => exact .inl ⟨_,_,lab',rfl,Mv.refl _ _ _,k5⟩
     | 2,rfl =>
      have e0 : a'.tmps.getD 44 undef = Value.int .i64 a := hb.got 1 (by decide) (hall ⟨1,.data⟩ (by simp) rfl);rw [gdg] at e0;exact .inl ⟨.int .i64 (q : Int),w',lab',by simp [execOp,Act.eval,go_sem,e0,hqw],Mv.refl _ _ _,rfl⟩
     | 3,rfl =>
      have e0 : a'.tmps.getD 45 undef = Value.int .i64 (q : Int) := hb.got 2 (by decide) (hall ⟨2,.data⟩ (by simp) rfl);refine .inr ⟨18,#[a'.tmps.getD 45 undef],by kernel_rfl,?_⟩;rw [e0];refine (Decimal_big q (by omega) w').mono ?_;rintro e w2 ⟨rfl,hb2⟩;exact ⟨_,_,rfl,Mv.below hb2 lab' 45,rfl⟩
     | 4,rfl =>
      have e0 : a'.tmps.getD 46 undef = Value.string (decB q) := hb.got 3 (by decide) (hall ⟨3,.data⟩ (by simp) rfl);rw [gdg] at e0;have hz := decB_small q (by omega);have hnb : ¬ 9223372036854775807 < (decB q).size + 1 := by omega
      exact .inl ⟨.string (decB q ++ ({ data := #[46] } : ByteArray)),w',lab',by simp [execOp,Act.eval,go_sem,e0,hnb],Mv.refl _ _ _,rfl⟩
     | 5,rfl =>
      exact .inl ⟨.slice (some ⟨w'.heap.size,0,none⟩) 8 8,w'.alloc (.cells frRow 9),lab'.ext w'.heap.size 45,by unfold frRow;simp [execOp,Act.eval,go_sem],Mv.alloc _ _ _ _,_,rfl,Cl.alloc _ _ _ _ _⟩
     | 6,rfl => exact .inl ⟨_,_,lab',rfl,Mv.refl _ _ _,k5⟩
     | 7,rfl =>
      have e0 : a'.tmps.getD 49 undef = Value.int .i64 a := hb.got 6 (by decide) (hall ⟨6,.data⟩ (by simp) rfl);rw [gdg] at e0;exact .inl ⟨.int .i64 (r : Int),w',lab',by simp [execOp,Act.eval,go_sem,e0,hrt],Mv.refl _ _ _,rfl⟩
     | 8,rfl =>
      obtain ⟨g,e0,hg⟩ := hb.got 5 (by decide) (hall ⟨5,.data⟩ (by simp) rfl);have e0 : a'.tmps.getD 48 undef = _ := e0;rw [gdg] at e0;have e1 : a'.tmps.getD 50 undef = Value.int .i64 (r : Int) := hb.got 7 (by decide) (hall ⟨7,.data⟩ (by simp) rfl);rw [gdg] at e1;exact .inl ⟨.pointer (some ⟨g,r,none⟩),w',lab',by simp [execOp,Act.eval,go_sem,e0,e1,hr8i],Mv.refl _ _ _,g,rfl,hg⟩
     | 9,rfl =>
      obtain ⟨g,e0,hg⟩ := hb.got 8 (by decide) (hall ⟨8,.data⟩ (by simp) rfl);have e0 : a'.tmps.getD 51 undef = _ := e0;rw [gdg] at e0;have q : w'.cell? ⟨g,r,none⟩ = some (.string (frT r)) := (hg.cell r).trans (fr_get _ hr8);exact .inl ⟨.string (frT r),w',lab',by simp [execOp,Act.eval,go_sem,e0,q],Mv.refl _ _ _,rfl⟩
     | 10,rfl =>
      have e0 : a'.tmps.getD 47 undef = Value.string (decB q ++ ({ data := #[46] } : ByteArray)) := hb.got 4 (by decide) (hall ⟨4,.data⟩ (by simp) rfl);have e1 : a'.tmps.getD 52 undef = Value.string (frT r) := hb.got 9 (by decide) (hall ⟨9,.data⟩ (by simp) rfl);rw [gdg] at e0 e1;have hz := decB_small q (by omega);have hz2 := frT_size r hr8;have hnb : ¬ 9223372036854775807 < (decB q).size + 1 + (frT r).size := by omega
      have hs1 : (decB q ++ ({ data := #[46] } : ByteArray)).size = (decB q).size + 1 := by rw [bsa];rfl
      exact .inl ⟨.string (decB q ++ ({ data := #[46] } : ByteArray) ++ frT r),w',lab',by simp [execOp,Act.eval,go_sem,e0,e1,hnb,hs1],Mv.refl _ _ _,rfl⟩
    ·intro a' lab' w' o ho hC hk m
     cases ho
     have e0 : a'.tmps.getD 43 undef = Value.pointer (some ⟨b,0,none⟩) := hC 0 (by decide);have e1 : a'.tmps.getD 53 undef = Value.string (decB q ++ ({ data := #[46] } : ByteArray) ++ frT r) := hC 10 (by decide);refine ⟨28,#[a'.tmps.getD 43 undef,a'.tmps.getD 53 undef],by kernel_rfl,?_⟩;rw [e0,e1];have hz := decB_small q (by omega);have hz2 := frT_size r hr8;have hs1 : (decB q ++ ({ data := #[46] } : ByteArray) ++ frT r).size = (decB q).size + 1 + 3 := by rw [bsa,bsa,hz2];rfl
     refine (put_c (HF.out.1.mv m (fun _ _ h => h)) (decB q ++ ({ data := #[46] } : ByteArray) ++ frT r) (by omega) (by omega) (by omega)).mono ?_;rintro e w2 ⟨rfl,h3,m3⟩;exact ⟨_,rfl,_,decB q ++ ({ data := #[46] } : ByteArray) ++ frT r,h3,Wrote.put W2 _,rfl,m3⟩
    ·intro us lab' w' w2 hu hm hR;obtain ⟨W3,T,h3,hw3,hT,m3⟩ := hR;have hz := decB_small q (by omega);have hz2 := frT_size r hr8;have hfin : NumbP lab w b W f (.returned (.tuple #[])) w2 := by
      refine ⟨rfl,W3,sg ++ T,lab',h3,HF.out.2.1.trans hw3,?_,fun e => ?_,(HF.out.2.2.1.trans hm (fun _ h => h.elim)).trans m3 (fun _ h => h)⟩
      ·rw [hT,bsa,bsa,bsa];show sg.size + ((decB q).size + 1 + (frT r).size) ≤ 30;omega
      ·obtain ⟨e1,e2,e3,e4⟩ := HE.out.1;refine ⟨n,e1,e2,e3,e4,?_⟩;rw [hT,HF.out.2.2.2.2,HQR.out.1,HQR.out.2,HF.out.2.2.2.1];unfold eiT fltT;simp only [ByteArray.append_assoc]
     have HFI := Lib.hid hfin;clear hfin h3 hw3 m3 hm
     match us,hu with
     | [y0,y1,y2,y3,y4,y5,y6,y7,y8,y9,y10,y11],_ =>
      simp only [List.take_succ_cons,List.take_zero,List.drop_succ_cons,List.drop_zero,List.cons_append,List.nil_append];go_wp2;go_end0;exact HFI.out
end
end Go.Cf
namespace Go.Cf
open Go.RowKit Go.Conc Go.Proofs
mutual
def wt : JV → Nat
 | .arr l => 1 + wts l
 | .map _ l => 1 + wts l
 | _ => 1
def wts : List JV → Nat
 | [] => 0
 | j :: r => 1 + wt j + wts r
end
theorem wt_eq (j : JV) : wt j = 1 + wts j.kids := by cases j <;> simp [wt,wts,JV.kids]
theorem wts_app : ∀ (l : List JV) (j : JV),wts (l ++ [j]) = wts l + (1 + wt j)
 | [],j => by simp [wts]
 | x :: r,j => by simp [wts,wts_app r j];omega
theorem wts_take {l : List JV} {q : Nat} {j : JV} (h : l[q]? = some j) : wts (l.take (q + 1)) = wts (l.take q) + (1 + wt j) := by
 rw [List.take_add_one,h];exact wts_app _ _
theorem wts_take_le {l : List JV} {q : Nat} : wts (l.take q) ≤ wts l := by
 have h : ∀ (a b : List JV),wts (a ++ b) = wts a + wts b := by
  intro a
  induction a with
  | nil => intro b;simp [wts]
  | cons x r ih => intro b;simp [wts,ih];omega
 have := h (l.take q) (l.drop q);rw [List.take_append_drop] at this;omega
def nlS (nl : Bool) : ByteArray := if nl then ⟨#[10]⟩ else ⟨#[]⟩
def ValS (env : List (ByteArray × JV)) (li : Bool) (j : JV) (T : ByteArray) (U : List ByteArray) : Prop := ∃ nl V P,GV env li ⟨#[]⟩ 0 j nl V U P ∧ T = V ++ nlS nl
def ValP (lab : Lab) (w : World) (b : Nat) (W : CW) (kj : List JV) (j : JV) (li : Bool) (e : Ending) (w' : World) : Prop :=
 e = .returned (.tuple #[]) ∧ ∃ W' T U lab',WAt lab' w' b W' ∧ WroteU W W' T U ∧ T.size ≤ 200 * wt j ∧ U.length ≤ wt j ∧ (W'.bad = false → ValS (envW W.known kj W.inner) li j T U) ∧ Mv VM w lab w' lab'
structure WOk (W : CW) (kj : List JV) (n : Nat) : Prop where
 var : VarOk W kj
 text : W.text.size + 200 * n ≤ 700000000
 line : W.line + 200 * n ≤ 700000000
 used : W.used.length + n ≤ 10000000
 inner : W.inner.length ≤ 1000000
 known : W.known.length ≤ 1000
 pos : 1 ≤ W.line
theorem WOk.next {W W1 : CW} {kj : List JV} {n m : Nat} {T : ByteArray} {U : List ByteArray} (h : WOk W kj n) (k : WroteU W W1 T U) (h1 : T.size + 200 * m ≤ 200 * n) (h2 : U.length + m ≤ n) : WOk W1 kj m := by
 have a := h.text;have b := h.line;have c := h.used;have e := k.size;have f := k.line_le;have g : W1.used.length = W.used.length + U.length := by rw [k.used,List.length_append]
 exact ⟨h.var.same k.known k.nv k.vals,by omega,by omega,by omega,by rw [k.inner];exact h.inner,by rw [k.known];exact h.known,by rw [k.line];have := h.pos;omega⟩
def ValC (j : JV) : Prop := ∀ (lab : Lab) (w : World) (b : Nat) (W : CW) (kj : List JV) (c : Array Value) (li : Bool) (deep : Int),WAt lab w b W → WOk W kj (wt j) → NdV 0 lab w j c → JS j → (∀ k ∈ innK j,k ∈ W.inner) → 0 ≤ deep → deep ≤ 1000000 - wt j →
 Calls Tryz.prog 37 #[.pointer (some ⟨b,0,none⟩),.agg c,.bool li,.int .i64 deep] w (ValP lab w b W kj j li)
end Go.Cf
