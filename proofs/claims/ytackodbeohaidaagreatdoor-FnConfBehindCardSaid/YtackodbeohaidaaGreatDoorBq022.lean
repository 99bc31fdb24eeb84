/-
  Texts joined: Bb5 Tn.
-/
import Derived.Test.YtackodbeohaidaaGreatDoorBq011
import Derived.Test.YtackodbeohaidaaGreatDoorBq021
import Derived.WalkKit
import Derived.ProofKit
import Derived.OpenShut
import Derived.Deep.DeepHandedRow
import Derived.Deep.DeepWitnessRowRef
import Derived.Lib.LaidTab
import Derived.Lay
import Derived.Deep.Strs
import Derived.Deep.Slices
import Derived.Laws.Cover2
import Derived.Carry
import Derived.Lib.SmallJoins
namespace Go.Cf
open Go.RowKit Go.Conc Go.Proofs
attribute [local go_sem ↓] appX_eq
attribute [local go_sem] run_store_flt
section
variable {w w1 w2 x y : World} {j : JV} {A B c c' : Array Value} {sv : Value} {style sty2 : List UInt8} {a a2' : Option Addr} {cc cc2 : Nat}
structure St (w : World) (A B : Array Value) (x : World) : Prop where
 b : Below w.heap.size w x
 pa : x.heap[w.heap.size]? = some (.cells A 26 (0,0))
 pb : x.heap[w.heap.size + 1]? = some (.cells B 26 (0,0))
 tb : Tb L0 x
theorem St.step (h : St w A B x) (hb : Below x.heap.size x y) : St w A B y :=
 ⟨h.b.trans (hb.mono h.b.size),(hb.block _ (lt_of_block h.pa)).trans h.pa,(hb.block _ (lt_of_block h.pb)).trans h.pb,h.tb.mv hb.mvL (fun h => h)⟩
theorem St.new (htb : Tb L0 w) : St w A B ((w.alloc (.cells A 26)).alloc (.cells B 26)) := by
 have hb0 : Below w.heap.size w ((w.alloc (.cells A 26)).alloc (.cells B 26)) := ((Below.refl _ _).alloc (Nat.le_refl _) _).alloc (by rw [World.size_alloc];omega) _;refine ⟨hb0,?_,?_,htb.mv hb0.mvL (fun h => h)⟩
 ·have hb1 : Below (w.heap.size + 1) (w.alloc (.cells A 26)) ((w.alloc (.cells A 26)).alloc (.cells B 26)) := (Below.refl _ _).alloc (by rw [World.size_alloc];omega) _;rw [hb1.block w.heap.size (by omega)];exact heap_alloc_new w _
 ·have := heap_alloc_new (w.alloc (.cells A 26)) (.cells B 26);rw [World.size_alloc] at this;exact this
theorem St.cells {k k' n n' : Int} {f f' : Nat} {is is' : Bool} {t t' : ByteArray} {v5 v6 v5' v6' : Value} (h : St w (ndC k n f is t v5 v6) (ndC k' n' f' is' t' v5' v6') x) :
  x.cell? ⟨w.heap.size,0,none⟩ = some (.int .i64 k) ∧ x.cell? ⟨w.heap.size,1,none⟩ = some (.int .i64 n) ∧ x.cell? ⟨w.heap.size,2,none⟩ = some (.float .f64 f) ∧ x.cell? ⟨w.heap.size,3,none⟩ = some (.bool is) ∧ x.cell? ⟨w.heap.size,4,none⟩ = some (.string t) ∧ x.cell? ⟨w.heap.size,5,none⟩ = some v5 ∧ x.cell? ⟨w.heap.size,6,none⟩ = some v6 ∧
  x.cell? ⟨w.heap.size + 1,0,none⟩ = some (.int .i64 k') ∧ x.cell? ⟨w.heap.size + 1,1,none⟩ = some (.int .i64 n') ∧ x.cell? ⟨w.heap.size + 1,2,none⟩ = some (.float .f64 f') ∧ x.cell? ⟨w.heap.size + 1,3,none⟩ = some (.bool is') ∧ x.cell? ⟨w.heap.size + 1,4,none⟩ = some (.string t') ∧ x.cell? ⟨w.heap.size + 1,5,none⟩ = some v5' ∧ x.cell? ⟨w.heap.size + 1,6,none⟩ = some v6' :=
 ⟨blk_cell h.pa 0,blk_cell h.pa 1,blk_cell h.pa 2,blk_cell h.pa 3,blk_cell h.pa 4,blk_cell h.pa 5,blk_cell h.pa 6,blk_cell h.pb 0,blk_cell h.pb 1,blk_cell h.pb 2,blk_cell h.pb 3,blk_cell h.pb 4,blk_cell h.pb 5,blk_cell h.pb 6⟩
set_option maxRecDepth 100000 in
set_option maxHeartbeats 8000000 in
theorem Behind_below (hr : NdR w 6 c) (hr' : NdR w 6 c') (hs : Sty L0 w (.slice a style.length cc) style) (hsl : style.length ≤ maxLen) (ht2 : Sty L0 w (.slice a2' sty2.length cc2) sty2) (htl : sty2.length ≤ maxLen) (htb : Tb L0 w) :
  Calls Tryz.prog 4 #[.agg c,.agg c',.slice a style.length cc,.slice a2' sty2.length cc2] w fun e w' => e = .returned (.bool true) ∧ Below w.heap.size w w' := by
 have hr2 := hr;have hr3 := hr';unfold NdR at hr2 hr3;obtain ⟨k,n,f,is,t,a1,m1,c1,a2,m2,c2,rfl,n0,n1,ht,h1,h2,hk,-⟩ := hr2;obtain ⟨k',n',f',is',t',a1',m1',c1',a3',m2',c2',rfl,n0',n1',ht',h1',h2',hk',-⟩ := hr3;have hft := fun (w1 : World) (hb : Below w.heap.size w w1) => fits1_c (w := w1) (k := k) (n := n) (f := f) (is := is) (t := t) (a1 := a1) (c1 := c1) (a2 := a2) (c2 := c2) h1 (hk.below hb) ht h2
 have hft' := fun (w1 : World) (hb : Below w.heap.size w w1) => fits1_c (w := w1) (k := k') (n := n') (f := f') (is := is') (t := t') (a1 := a1') (c1 := c1') (a2 := a3') (c2 := c2') h1' (hk'.below hb) ht' h2'
 have hsx : (style.length : Int) ≤ 9223372036854775807 := by unfold maxLen at hsl;omega
 have htx : (sty2.length : Int) ≤ 9223372036854775807 := by unfold maxLen at htl;omega
 obtain ⟨w0,hw0⟩ : ∃ x,x = (w.alloc (.cells (ndC k n f is t (.slice a1 m1 c1) (.slice a2 m2 c2)) 26)).alloc (.cells (ndC k' n' f' is' t' (.slice a1' m1' c1') (.slice a3' m2' c2')) 26) := ⟨_,rfl⟩;have hst : St w (ndC k n f is t (.slice a1 m1 c1) (.slice a2 m2 c2)) (ndC k' n' f' is' t' (.slice a1' m1' c1') (.slice a3' m2' c2')) w0 := by rw [hw0];exact St.new htb
 have HFT := Lib.hid hft;have HFT' := Lib.hid hft';have HS := Lib.hid hs;have HS2 := Lib.hid ht2;have HR := Lib.hid hr;have HR' := Lib.hid hr';have H0 := Lib.hid hst;clear hft hft' hs ht2 htb hr hr' hst hk hk' h1 h2 h1' h2' ht ht' hsl htl;unfold nodV at *;obtain ⟨p0,p1,p2,p3,p4,p5,p6,q0,q1,q2,q3,q4,q5,q6⟩ := H0.out.cells;unfold ndC at *;go_enter Tryz.func4,Tryz.ntmps4;go_upto_region 1 with fail
 rw [← hw0];clear hw0;go_wp2_with fail;refine (HFT.out w0 H0.out.b).mono ?_;rintro e w1 ⟨⟨ok,rfl⟩,hb1⟩;have H1 := Lib.hid (H0.out.step hb1);clear hb1 p0 p1 p2 p3 p4 p5 p6 q0 q1 q2 q3 q4 q5 q6
 cases ok with
 | false =>
  go_wp2;go_ret;exact ⟨rfl,H1.out.b⟩
 | true =>
  obtain ⟨p0,p1,p2,p3,p4,p5,p6,q0,q1,q2,q3,q4,q5,q6⟩ := H1.out.cells;go_wp2_with fail;refine (HFT'.out w1 H1.out.b).mono ?_;rintro e w2 ⟨⟨ok,rfl⟩,hb2⟩;have H2 := Lib.hid (H1.out.step hb2);clear hb2 p0 p1 p2 p3 p4 p5 p6 q0 q1 q2 q3 q4 q5 q6
  cases ok with
  | false =>
   go_wp2;go_ret;exact ⟨rfl,H2.out.b⟩
  | true =>
   by_cases hs31 : style.length ≤ 2147483647
   case neg =>
    have d1 : decide ((2147483647 : Int) < (style.length : Int)) = true := decide_eq_true (by omega);go_wp2;go_ret;exact ⟨rfl,H2.out.b⟩
   have d1 : decide ((2147483647 : Int) < (style.length : Int)) = false := decide_eq_false (by omega);by_cases ht31 : sty2.length ≤ 2147483647
   case neg =>
    have d1' : decide ((2147483647 : Int) < (sty2.length : Int)) = true := decide_eq_true (by omega);go_wp2;go_ret;exact ⟨rfl,H2.out.b⟩
   have d1' : decide ((2147483647 : Int) < (sty2.length : Int)) = false := decide_eq_false (by omega);obtain ⟨p0,p1,p2,p3,p4,p5,p6,q0,q1,q2,q3,q4,q5,q6⟩ := H2.out.cells;have htree := tree_c 6 (by decide) w2 _ (HR.out.below H2.out.b);unfold ndC at htree;have HT := Lib.hid htree;clear htree;go_wp2_with fail;refine HT.out.mono ?_;rintro e w3 ⟨⟨ok,rfl,hok⟩,hb3⟩;have H3 := Lib.hid (H2.out.step hb3);have HOK := Lib.hid hok;clear hb3 hok HT HFT HFT' p0 p1 p2 p3 p4 p5 p6 q0 q1 q2 q3 q4 q5 q6
   cases ok with
   | false =>
    go_wp2_with fail
    refine (awakeL H3.out.tb).mono ?_;rintro e wz ⟨rfl,hbz⟩;have HZ := Lib.hid (H3.out.step hbz).b;clear hbz;go_wp2;go_ret;exact ⟨rfl,HZ.out⟩
   | true =>
    obtain ⟨p0,p1,p2,p3,p4,p5,p6,q0,q1,q2,q3,q4,q5,q6⟩ := H3.out.cells;have htree := tree_c 6 (by decide) w3 _ (HR'.out.below H3.out.b);unfold ndC at htree;have HT := Lib.hid htree;clear htree;go_wp2_with fail;refine HT.out.mono ?_;rintro e w4 ⟨⟨ok,rfl,hok⟩,hb4⟩;have H4 := Lib.hid (H3.out.step hb4);have HOK' := Lib.hid hok;have H34 := Lib.hid hb4;clear hb4 hok HT p0 p1 p2 p3 p4 p5 p6 q0 q1 q2 q3 q4 q5 q6
    cases ok with
    | false =>
     go_wp2_with fail
     refine (awakeL H4.out.tb).mono ?_;rintro e wz ⟨rfl,hbz⟩;have HZ := Lib.hid (H4.out.step hbz).b;clear hbz;go_wp2;go_ret;exact ⟨rfl,HZ.out⟩
    | true =>
     obtain ⟨j,hj,hjt⟩ := HOK.out (by first | rfl | trivial);obtain ⟨j',hj',hjt'⟩ := HOK'.out (by first | rfl | trivial);have HJ := Lib.hid (aI (NdV.mv H34.out.mvL (fun h => h) j hj) hjt);have HJ' := Lib.hid (aI hj' hjt');clear hj hjt hj' hjt' HOK HOK' HR HR';by_cases hs200 : style.length ≤ 200
     case neg =>
      have d2 : decide ((200 : Int) < (style.length : Int)) = true := decide_eq_true (by omega);go_wp2_with fail;refine (awakeL H4.out.tb).mono ?_;rintro e wz ⟨rfl,hbz⟩;have HZ := Lib.hid (H4.out.step hbz).b;clear hbz;go_wp2;go_ret;exact ⟨rfl,HZ.out⟩
     have d2 : decide ((200 : Int) < (style.length : Int)) = false := decide_eq_false (by omega);by_cases ht200 : sty2.length ≤ 200
     case neg =>
      have d2' : decide ((200 : Int) < (sty2.length : Int)) = true := decide_eq_true (by omega);go_wp2_with fail;refine (awakeL H4.out.tb).mono ?_;rintro e wz ⟨rfl,hbz⟩;have HZ := Lib.hid (H4.out.step hbz).b;clear hbz;go_wp2;go_ret;exact ⟨rfl,HZ.out⟩
     have d2' : decide ((200 : Int) < (sty2.length : Int)) = false := decide_eq_false (by omega);obtain ⟨p0,p1,p2,p3,p4,p5,p6,q0,q1,q2,q3,q4,q5,q6⟩ := H4.out.cells;have HW := Lib.hid (written_all HJ.out.1 HJ.out.2 (HS.out.mv H4.out.b.mvL (fun h => h)));go_wp2_with fail;refine HW.out.mono ?_;rintro e w5 ⟨T,pv,ok,rfl,hTs,hTo,hb5⟩;have H5 := Lib.hid (H4.out.step hb5);have HJ5 := Lib.hid (aI (NdV.mv hb5.mvL (fun h => h) j HJ.out.1) (NdV.mv hb5.mvL (fun h => h) j' HJ'.out.1));have HTO := Lib.hid hTo;clear hb5 hTo p0 p1 p2 p3 p4 p5 p6 q0 q1 q2 q3 q4 q5 q6;obtain ⟨p0,p1,p2,p3,p4,p5,p6,q0,q1,q2,q3,q4,q5,q6⟩ := H5.out.cells;have HW2 := Lib.hid (written_all HJ5.out.2 HJ'.out.2 (HS2.out.mv H5.out.b.mvL (fun h => h)));go_wp2_with fail;refine HW2.out.mono ?_;rintro e w6 ⟨T2,pv2,ok2,rfl,hTs2,hTo2,hb6⟩;have H6 := Lib.hid (H5.out.step hb6);have HJ6 := Lib.hid (aI (NdV.mv hb6.mvL (fun h => h) j HJ5.out.1) (NdV.mv hb6.mvL (fun h => h) j' HJ5.out.2));have HTO2 := Lib.hid hTo2;clear hb6 hTo2 HW HW2 p0 p1 p2 p3 p4 p5 p6 q0 q1 q2 q3 q4 q5 q6
     cases ok with
     | false =>
      go_wp2_with fail
      refine (awakeL H6.out.tb).mono ?_;rintro e wz ⟨rfl,hbz⟩;have HZ := Lib.hid (H6.out.step hbz).b;clear hbz;go_wp2;go_ret;exact ⟨rfl,HZ.out⟩
     | true =>
      cases ok2 with
      | false =>
       go_wp2_with fail
       refine (awakeL H6.out.tb).mono ?_;rintro e wz ⟨rfl,hbz⟩;have HZ := Lib.hid (H6.out.step hbz).b;clear hbz;go_wp2;go_ret;exact ⟨rfl,HZ.out⟩
      | true =>
       obtain ⟨ks,l,rfl,T0,U,P,envF,hT,hz,hg,hp⟩ := HTO.out (by first | rfl | trivial);obtain ⟨ks',l',rfl,T0',U',P',envF',hT',hz',hg',hp'⟩ := HTO2.out (by first | rfl | trivial);have HG := Lib.hid (aI hT (aI hg hp));have HG' := Lib.hid (aI hT' (aI hg' hp'));clear hT hg hp hT' hg' hp' HTO HTO2;go_wp2_with fail;refine (open2_any T (by omega)).mono ?_;rintro e w3' ⟨⟨oko,rfl,hop⟩,hww⟩;have hww' := hww.symm;clear hww;subst hww';have HOP := Lib.hid hop;clear hop
       cases oko with
       | false =>
        go_wp2_with fail
        refine (awakeL H6.out.tb).mono ?_;rintro e wz ⟨rfl,hbz⟩;have HZ := Lib.hid (H6.out.step hbz).b;clear hbz;go_wp2;go_ret;exact ⟨rfl,HZ.out⟩
       | true =>
        go_wp2_with fail
        refine (open2_any T2 (by omega)).mono ?_;rintro e w3'' ⟨⟨oko,rfl,hop⟩,hww⟩;have hww' := hww.symm;clear hww;subst hww';have HOP' := Lib.hid hop;clear hop
        cases oko with
        | false =>
         go_wp2_with fail
         refine (awakeL H6.out.tb).mono ?_;rintro e wz ⟨rfl,hbz⟩;have HZ := Lib.hid (H6.out.step hbz).b;clear hbz;go_wp2;go_ret;exact ⟨rfl,HZ.out⟩
        | true =>
         obtain ⟨p0,p1,p2,p3,p4,p5,p6,q0,q1,q2,q3,q4,q5,q6⟩ := H6.out.cells;have hTT := brace_no HG.out.1 (HOP.out (by first | rfl | trivial));have hTT' := brace_no HG'.out.1 (HOP'.out (by first | rfl | trivial));subst hTT hTT';obtain ⟨hv,hv'⟩ := HJ6.out;simp only [NdV] at hv hv';obtain ⟨fa,b1,e1,b2,e2,hfa,ea,hkA,hlA⟩ := hv;obtain ⟨fb,b1',e1',b2',e2',hfb,eb,hkB,hlB⟩ := hv';simp only [ndC,Array.mk.injEq,List.cons.injEq,Value.int.injEq,Value.float.injEq,Value.bool.injEq,Value.string.injEq,Value.slice.injEq,true_and,and_true] at ea eb;obtain ⟨rfl,rfl,rfl,rfl,rfl,⟨rfl,rfl,rfl⟩,rfl,rfl,rfl⟩ := ea;obtain ⟨rfl,rfl,rfl,rfl,rfl,⟨rfl,rfl,rfl⟩,rfl,rfl,rfl⟩ := eb;have hjt := HJ.out.2;have hjt' := HJ'.out.2;simp only [JT] at hjt hjt';have hlen := ge_len l HG.out.2.1;have hlen' := ge_len l' HG'.out.2.1;obtain ⟨wS,hwS⟩ : ∃ x,x = w6.alloc (.cells #[.int .i64 6,.int .i64 0,.float .f64 0,.bool false,.string ⟨#[]⟩,.slice none 0 0,.slice none 0 0] 26) := ⟨_,rfl⟩;have hL0 := LoopS.new (w := w6);unfold ndC at hL0;rw [← hwS] at hL0;have HL0 := Lib.hid hL0;have HKL := Lib.hid (aI hkA (aI hlA (aI hkB hlB)));have hk8 : ks.length ≤ 8 := hjt.1;have hk8' : ks'.length ≤ 8 := hjt'.1;have hl8 : l.length ≤ 8 := hjt.2.1;have hl8' : l'.length ≤ 8 := hjt'.2.1;have HJT := Lib.hid (aI hjt hjt');obtain ⟨b,hb⟩ : ∃ b,b = w6.heap.size := ⟨_,rfl⟩;rw [← hb] at HL0;have HLEN := Lib.hid (aI hlen hlen');clear hkA hlA hkB hlB hjt hjt' hL0 HJ6 HJ5 hlen hlen' p0 p1 p2 p3 p4 p5 p6 q0 q1 q2 q3 q4 q5 q6;go_upto_region 10 with fail
         rw [← hwS,← hb];clear hwS hb;go_wp2_with fail;go_loopw [16,17] (fun i k wr => ∃ (q r : Nat) (D : List (ByteArray × JV)) (KA : Option Addr) (KC : Nat) (LA : Option Addr) (LC : Nat) (vals : List Value) (labr : Lab),i = .int .i64 q ∧ k = .int .i64 r ∧ q ≤ ks.length ∧ r ≤ ks'.length ∧ mrg (ks.zip l) (ks'.zip l') = D ++ mrg ((ks.zip l).drop q) ((ks'.zip l').drop r) ∧ D.length ≤ q + r ∧ LoopS w6 b D KA KC LA LC vals labr wr) (fun i k _ => (ks.length - (RowKit.intOf i).toNat) + (ks'.length - (RowKit.intOf k).toNat))
         case atStart => exact ⟨0,0,[],none,0,none,0,[],_,rfl,rfl,Nat.zero_le _,Nat.zero_le _,rfl,Nat.zero_le _,HL0.out⟩
         case round =>
          obtain ⟨q,r,D,KA,KC,LA,LC,vals,labr,rfl,rfl,hq,hr,hD,hDl,hL⟩ := hrel;have hq0 : (0 : Int) ≤ (q : Int) := Int.natCast_nonneg _;have hr0 : (0 : Int) ≤ (r : Int) := Int.natCast_nonneg _;have HL := Lib.hid hL;have HST := Lib.hid (H6.out.step hL.below);have HD := Lib.hid hD;clear hL hD;by_cases hend : q = ks.length ∧ r = ks'.length
          case pos =>
           obtain ⟨rfl,rfl⟩ := hend;have hDD : mrg (ks.zip l) (ks'.zip l') = D := by
            have h := HD.out;obtain ⟨hlen,hlen'⟩ := HLEN.out;rw [List.drop_eq_nil_of_le (by rw [List.length_zip];omega),List.drop_eq_nil_of_le (by rw [List.length_zip];omega)] at h;rw [h];simp [mrg]
           have hcf := conf_behind HST.out.tb HJ.out.2 HJ'.out.2 hz hz' HG.out.2.1 HG'.out.2.1 HG.out.2.2 HG'.out.2.2 D hDD.symm;have hmem : ∀ x ∈ D,(x.2 ∈ l ∨ x.2 ∈ l') := fun x hx => by
            rw [← hDD] at hx;rcases mem_mrg hx with hx | hx
            ·exact .inl (List.of_mem_zip hx).2
            ·exact .inr (List.of_mem_zip hx).2
           have hsm : JSameL (canonL (D.map (·.2))) (D.map (·.2)) := sameL_all fun j hj => by
            obtain ⟨x,hx,rfl⟩ := List.mem_map.1 hj;rcases hmem x hx with h | h
            ·exact sameL_mem (ge_same hasF l HG.out.2.1).1 _ h
            ·exact sameL_mem (ge_same hasF l' HG'.out.2.1).1 _ h
           have hjd : ∀ y ∈ D.map (·.2),JT 5 y := fun y hy => by
            obtain ⟨x,hx,rfl⟩ := List.mem_map.1 hy;rcases hmem x hx with h | h
            ·exact HJT.out.1.2.2.2 _ h
            ·exact HJT.out.2.2.2.2 _ h
           have HCF := Lib.hid hcf;have HSM := Lib.hid (aI hsm hjd);obtain ⟨p0,p1,p2,p3,p4,p5,p6,q0,q1,q2,q3,q4,q5,q6⟩ := HST.out.cells;clear hcf hsm hjd hmem hDD;go_wp2_with fail;refine HCF.out.mono ?_;rintro e w7 ⟨c7,rfl,hc7,hb7⟩;obtain ⟨k7,n7,f7,i7,t7,x1,y1,z1,x2,y2,z2,rfl⟩ := hc7.shape;obtain ⟨w8,hw8⟩ : ∃ x,x = w7.alloc (.cells (ndC k7 n7 f7 i7 t7 (.slice x1 y1 z1) (.slice x2 y2 z2)) 26) := ⟨_,rfl⟩;have hb8 : Below w7.heap.size w7 w8 := by rw [hw8];exact (Below.refl _ _).alloc (Nat.le_refl _) _
           have hn8 : w8.heap[w7.heap.size]? = some (.cells (ndC k7 n7 f7 i7 t7 (.slice x1 y1 z1) (.slice x2 y2 z2)) 26 (0,0)) := by rw [hw8];exact heap_alloc_new _ _
           have hb78 := hb7.trans (hb8.mono hb7.size);have hst8 := HST.out.step hb78;have m78 := Mv.below (M := fun _ => False) hb78 labr 7;have hcl8 := HL.out.cl.mv m78 (fun h => h);have hwant := want_ndv (HL.out.kr.mv m78 (fun h => h)) (HL.out.lr.mv m78 (fun h => h)) HL.out.wt (HL.out.below.trans (hb78.mono HL.out.below.size));have hsame := same_map (ks := D.map (·.1)) (l := canonL (D.map (·.2))) (m := D.map (·.2)) HSM.out.1 (NdV.mv hb8.mvL (fun h => h) _ hc7) hwant (by rw [List.length_map];omega) (by rw [List.length_map];omega) fun x y _ hy hxy w1 c c' => same_at 5 x y (HSM.out.2 y hy) hxy w1 c c'
           unfold ndC at *;have g0 : w8.cell? ⟨w7.heap.size,0,none⟩ = some (.int .i64 k7) := blk_cell hn8 0;have g1 : w8.cell? ⟨w7.heap.size,1,none⟩ = some (.int .i64 n7) := blk_cell hn8 1;have g2 : w8.cell? ⟨w7.heap.size,2,none⟩ = some (.float .f64 f7) := blk_cell hn8 2;have g3 : w8.cell? ⟨w7.heap.size,3,none⟩ = some (.bool i7) := blk_cell hn8 3;have g4 : w8.cell? ⟨w7.heap.size,4,none⟩ = some (.string t7) := blk_cell hn8 4;have g5 : w8.cell? ⟨w7.heap.size,5,none⟩ = some (.slice x1 y1 z1) := blk_cell hn8 5;have g6 : w8.cell? ⟨w7.heap.size,6,none⟩ = some (.slice x2 y2 z2) := blk_cell hn8 6;have k0 : w8.cell? ⟨b,0,none⟩ = some (.int .i64 6) := hcl8.cell 0;have k1 : w8.cell? ⟨b,1,none⟩ = some (.int .i64 0) := hcl8.cell 1;have k2 : w8.cell? ⟨b,2,none⟩ = some (.float .f64 0) := hcl8.cell 2;have k3 : w8.cell? ⟨b,3,none⟩ = some (.bool false) := hcl8.cell 3;have k4 : w8.cell? ⟨b,4,none⟩ = some (.string ⟨#[]⟩) := hcl8.cell 4;have k5 : w8.cell? ⟨b,5,none⟩ = some (.slice KA D.length KC) := hcl8.cell 5;have k6 : w8.cell? ⟨b,6,none⟩ = some (.slice LA D.length LC) := hcl8.cell 6;have H8 := Lib.hid (aI hst8 hsame);clear hb8 hn8 hb78 hst8 m78 hcl8 hwant hsame hc7 hb7 p0 p1 p2 p3 p4 p5 p6 q0 q1 q2 q3 q4 q5 q6;go_upto_region 20 with fail
           rw [← hw8];clear hw8;go_wp2_with fail;refine H8.out.2.mono ?_;rintro e w9 ⟨rfl,hb9⟩;have H9 := Lib.hid (H8.out.1.step hb9);clear hb9 g0 g1 g2 g3 g4 g5 g6 k0 k1 k2 k3 k4 k5 k6;go_wp2_with fail;refine (awakeL H9.out.tb).mono ?_;rintro e wz ⟨rfl,hbz⟩;have HZ := Lib.hid (H9.out.step hbz).b;clear hbz;go_wp2;go_ret;exact ⟨rfl,HZ.out⟩
          case neg =>
           obtain ⟨sel,hsel⟩ : ∃ s : Bool,s = ((r == ks'.length) || (decide (q < ks.length) && bytesBefore (ks.getD q ⟨#[]⟩).data.toList (ks'.getD r ⟨#[]⟩).data.toList)) := ⟨_,rfl⟩;have HSEL := Lib.hid hsel;have HEND := Lib.hid hend;clear hsel hend;go_upto_region 11 with fail
           go_cut [100] from 89 to 101 (fun s wx => s = .bool true ∧ wx = wr)
           case first =>
            by_cases hq1 : q < ks.length
            ·have hq2 : (q : Int) < (ks.length : Int) := by omega
             have d3 : decide ((q : Int) < (ks.length : Int)) = true := decide_eq_true hq2;obtain ⟨p0,p1,p2,p3,p4,p5,p6,q0,q1,q2,q3,q4,q5,q6⟩ := HST.out.cells;go_wp2_with fail;go_meet
             case rel => exact ⟨rfl,rfl⟩
            ·have hq2 : ¬ (q : Int) < (ks.length : Int) := by omega
             have d3 : decide ((q : Int) < (ks.length : Int)) = false := decide_eq_false hq2;have hr2 : (r : Int) < (ks'.length : Int) := by have := HEND.out;omega
             obtain ⟨p0,p1,p2,p3,p4,p5,p6,q0,q1,q2,q3,q4,q5,q6⟩ := HST.out.cells;go_wp2_with fail;go_meet
             case rel => exact ⟨rfl,rfl⟩
           case rest =>
            obtain ⟨rfl,hcw⟩ := hcut;have hcut' := hcw.symm;clear hcw;subst hcut';go_upto_region 16 with fail
            go_cut [143] from 144 to 169 (fun s wx => s = .bool sel ∧ ∃ n,wx = wr.drewN n)
            case first =>
             by_cases hr1 : r = ks'.length
             ·have e1 : ((r : Int) == (ks'.length : Int)) = true := beq_iff_eq.2 (by omega);have es : sel = true := by rw [HSEL.out,hr1];simp
              have HES := Lib.hid es;clear hr1 es;obtain ⟨p0,p1,p2,p3,p4,p5,p6,q0,q1,q2,q3,q4,q5,q6⟩ := HST.out.cells;go_quiet (fail);go_wp2;go_meet
              case rel => exact ⟨by rw [HES.out],_,rfl⟩
             ·have e1 : ((r : Int) == (ks'.length : Int)) = false := bqf (by omega);by_cases hq1 : q < ks.length
              ·have hq2 : (q : Int) < (ks.length : Int) := by omega
               have hr2 : (r : Int) < (ks'.length : Int) := by omega
               have d3 : decide ((q : Int) < (ks.length : Int)) = true := decide_eq_true hq2;obtain ⟨kq,hkq⟩ : ∃ k,ks[q]? = some k := ⟨_,List.getElem?_eq_getElem hq1⟩;obtain ⟨kr,hkr⟩ : ∃ k,ks'[r]? = some k := ⟨_,List.getElem?_eq_getElem (by omega)⟩;obtain ⟨ad,rfl,_,u1⟩ := HKL.out.1 q kq hkq;obtain ⟨ad',rfl,_,u2⟩ := HKL.out.2.2.1 r kr hkr;have u1 := HL.out.below.cellB u1;have u2 := HL.out.below.cellB u2;have es : sel = bytesBefore kq.data.toList kr.data.toList := by rw [HSEL.out,List.getD_eq_getElem?_getD,List.getD_eq_getElem?_getD,hkq,hkr,bqf hr1,decide_eq_true hq1];rfl
               have HES := Lib.hid es;clear hkq hkr es hr1;obtain ⟨p0,p1,p2,p3,p4,p5,p6,q0,q1,q2,q3,q4,q5,q6⟩ := HST.out.cells;go_quiet (fail);go_wp2;go_meet
               case rel => exact ⟨by rw [HES.out,← less_before,Lib.toList_data,Lib.toList_data],_,rfl⟩
              ·have hq2 : ¬ (q : Int) < (ks.length : Int) := by omega
               have d3 : decide ((q : Int) < (ks.length : Int)) = false := decide_eq_false hq2;have es : sel = false := by rw [HSEL.out,bqf hr1,decide_eq_false hq1];rfl
               have HES := Lib.hid es;clear es hr1;obtain ⟨p0,p1,p2,p3,p4,p5,p6,q0,q1,q2,q3,q4,q5,q6⟩ := HST.out.cells;go_quiet (fail);go_wp2;go_meet
               case rel => exact ⟨by rw [HES.out],_,rfl⟩
            case rest =>
             obtain ⟨rfl,nd,hwc⟩ := hcut;have hLc := HL.out.drewN nd;rw [← hwc] at hLc;have hSTc := H6.out.step hLc.below;have HLC := Lib.hid hLc;have HSTC := Lib.hid hSTc;clear hwc hLc hSTc HL HST;have hqw : IntKind.i64.wrap ((q : Int) + 1) = ((q + 1 : Nat) : Int) := by rw [show (q : Int) + 1 = ((q + 1 : Nat) : Int) from by omega];exact Lib.wrap_i64_small _ (by omega)
             obtain ⟨hlen,hlen'⟩ := HLEN.out
             cases sel with
             | true =>
              obtain ⟨hqk,hsel⟩ : q < ks.length ∧ (r = ks'.length ∨ ∃ y,(ks'.zip l')[r]? = some y ∧ ∃ x,(ks.zip l)[q]? = some x ∧ ltB x.1 y.1) := by
               have h := HSEL.out;rcases Nat.lt_or_ge q ks.length with h1 | h1
               ·refine ⟨h1,?_⟩;by_cases h2 : r = ks'.length
                ·exact .inl h2
                ·right
                 have e1 : (ks.zip l)[q]? = some (ks[q],l[q]'(by omega)) := by rw [List.getElem?_eq_getElem (by rw [List.length_zip];omega),List.getElem_zip]
                 have e2 : (ks'.zip l')[r]? = some (ks'[r]'(by omega),l'[r]'(by omega)) := by rw [List.getElem?_eq_getElem (by rw [List.length_zip];omega),List.getElem_zip]
                 refine ⟨_,e2,_,e1,?_⟩;rw [bqf h2,decide_eq_true h1,Bool.false_or,Bool.true_and,List.getD_eq_getElem?_getD,List.getD_eq_getElem?_getD,List.getElem?_eq_getElem h1,List.getElem?_eq_getElem (show r < ks'.length by omega)] at h;exact h.symm
               ·exfalso
                have h2 : r ≠ ks'.length := fun e => HEND.out ⟨by omega,e⟩
                rw [bqf h2,decide_eq_false (by omega)] at h
                cases h
              obtain ⟨x,hxq⟩ : ∃ x,(ks.zip l)[q]? = some x := ⟨_,List.getElem?_eq_getElem (by rw [List.length_zip];omega)⟩;have hD2 : mrg (ks.zip l) (ks'.zip l') = D ++ (x :: mrg ((ks.zip l).drop (q + 1)) ((ks'.zip l').drop r)) := by
               rw [HD.out,mrg_stepN hxq];rcases hsel with h | ⟨y,h1,x',h2,h3⟩
               ·left;rw [List.length_zip];omega
               ·rw [hxq] at h2;cases h2;exact .inr ⟨y,h1,h3⟩
              have HD2 := Lib.hid hD2;clear hD2 hsel hlen hlen';have HL := HLC;go_upto_region 17 with fail
              obtain ⟨ad,ad2,cx,e1,e2,hx1,hx2,hx3⟩ := elem_at HKL.out.1 HKL.out.2.1 hxq;subst e1 e2;obtain ⟨kx,nx,fx,bxx,sx,ax,mx,ccx,ay,my,ccy,rfl⟩ := hx3.shape;have HE := Lib.hid (aI hx1 (aI hx2 hx3));have HS5 := Lib.hid (fun (lab' : Lab) (w' : World) (m : Mv KB5 wc labr w' lab') => (⟨H6.out.step ((HL.out.mv.trans m (fun _ h => h)).toBelow (Nat.le_refl _) (fun k _ h => by have e : L0 k = 0 := rfl;have : L0 k = 50 ∨ L0 k = 51 ∨ L0 k = 52 := h;omega)),((HL.out.mv.trans m (fun _ h => h)).toBelow (Nat.le_refl _) (fun k _ h => by have e : L0 k = 0 := rfl;have : L0 k = 50 ∨ L0 k = 51 ∨ L0 k = 52 := h;omega)).cellB hx1,cell7.below hx2 ((HL.out.mv.trans m (fun _ h => h)).toBelow (Nat.le_refl _) (fun k _ h => by have e : L0 k = 0 := rfl;have : L0 k = 50 ∨ L0 k = 51 ∨ L0 k = 52 := h;omega))⟩ : St w _ _ w' ∧ w'.cell? (ad.add q) = some (.string x.1) ∧ cell7 w' ad2 q (ndC kx nx fx bxx sx (.slice ax mx ccx) (.slice ay my ccy))));have hi0 : (0 : Int) ≤ (q : Int) := Int.natCast_nonneg _;have hi1 : (q : Int) < (ks.length : Int) := by omega
              have hi2 : (q : Int) < (l.length : Int) := by have := HLEN.out;omega
              clear hx1 hx2 hx3;unfold ndC at *;refine rows_region ⟨fun d => if d = 0 then .slice KA D.length KC else .slice LA D.length LC,fun _ => D.length,fun d => if d = 0 then D.map fun x => .string x.1 else vals,fun d => if d = 0 then [.string x.1] else [.int .i64 kx,.int .i64 nx,.float .f64 fx,.bool bxx,.string sx,.slice ax mx ccx,.slice ay my ccy],fun i => match i with
               | 0 => some (.pointer (some ⟨b,5,none⟩))
               | 1 => some (.slice KA D.length KC)
               | 2 => some (.pointer (some ⟨w.heap.size,5,none⟩))
               | 3 => some (.slice (some ad) ks.length c1)
               | 4 => some (.int .i64 q)
               | 5 => some (.pointer (some (ad.add q)))
               | 6 => some (.string x.1)
               | 9 => some (.pointer (some ⟨b,6,none⟩))
               | 10 => some (.slice LA D.length LC)
               | 11 => some (.pointer (some ⟨w.heap.size,6,none⟩))
               | 12 => some (.slice (some ad2) l.length c2)
               | 13 => some (.int .i64 q)
               | 14 => some (.pointer (some (ad2.add (q * 7))))
               | 15 => some (.agg #[.int .i64 kx,.int .i64 nx,.float .f64 fx,.bool bxx,.string sx,.slice ax mx ccx,.slice ay my ccy])
               | 18 => some (.pointer (some ⟨b,5,none⟩))
               | 20 => some (.pointer (some ⟨b,6,none⟩))
               | _ => none,fun d hd => by match d,hd with | 0,_ | 1,_ => exact ⟨rfl,rfl,rfl⟩⟩
               169 HL.out.cl (fun d hd => by match d,hd with | 0,_ => exact HL.out.kr | 1,_ => exact HL.out.lr) mixed (by kernel_rfl) rfl rfl (show 169 + 20 ≤ 208 by omega) ?_ ?_
              ·intro L a' lab' w' i o hL ho hf hall hr;have k15 : a'.tmps[15]?.getD undef = .pointer (some ⟨b,0,none⟩) := hr.kept' 15 _ (by omega) rfl;have kn : a'.tmps[4]?.getD undef = .pointer (some ⟨w.heap.size,0,none⟩) := hr.kept' 4 _ (by omega) rfl;have ki : a'.tmps[16]?.getD undef = .int .i64 q := hr.kept' 16 _ (by omega) rfl;have hS := HS5.out lab' w' hr.mv
               match i,ho with
               | 0,rfl =>
                exact hr.go hL (show 169 + 20 ≤ 208 by omega) 0 _ rfl (by decide) rfl rfl rfl (fun d hd e => by omega) (by simp [execOp,Act.eval,go_sem,k15])
               | 1,rfl =>
                have e0 : a'.tmps[169]?.getD undef = .pointer (some ⟨b,5,none⟩) := hr.got' 0 _ (by decide) (hall ⟨0,.data⟩ (by simp) rfl) rfl;obtain ⟨h8f,q'⟩ := hr.old 0 (by decide) hf;have q1 : w'.cell? ⟨b,5,none⟩ = some (.slice KA D.length KC) := q';exact hr.go hL (show 169 + 20 ≤ 208 by omega) 1 _ rfl (by decide) rfl rfl rfl (fun d2 hd2 e2 => by have e3 : d2 = 0 := (by omega);rw [e3];exact h8f) (by simp [execOp,Act.eval,go_sem,e0,q1])
               | 2,rfl =>
                exact hr.go hL (show 169 + 20 ≤ 208 by omega) 2 _ rfl (by decide) rfl rfl rfl (fun d hd e => by omega) (by simp [execOp,Act.eval,go_sem,kn])
               | 3,rfl =>
                have e0 : a'.tmps[171]?.getD undef = .pointer (some ⟨w.heap.size,5,none⟩) := hr.got' 2 _ (by decide) (hall ⟨2,.data⟩ (by simp) rfl) rfl;have q1 : w'.cell? ⟨w.heap.size,5,none⟩ = some (.slice (some ad) ks.length c1) := blk_cell hS.1.pa 5;exact hr.go hL (show 169 + 20 ≤ 208 by omega) 3 _ rfl (by decide) rfl rfl rfl (fun d hd e => by omega) (by simp [execOp,Act.eval,go_sem,e0,q1])
               | 4,rfl =>
                exact hr.go hL (show 169 + 20 ≤ 208 by omega) 4 _ rfl (by decide) rfl rfl rfl (fun d hd e => by omega) (by simp [execOp,Act.eval,go_sem,ki])
               | 5,rfl =>
                have e0 : a'.tmps[172]?.getD undef = .slice (some ad) ks.length c1 := hr.got' 3 _ (by decide) (hall ⟨3,.data⟩ (by simp) rfl) rfl;have e1 : a'.tmps[173]?.getD undef = .int .i64 q := hr.got' 4 _ (by decide) (hall ⟨4,.data⟩ (by simp) rfl) rfl;exact hr.go hL (show 169 + 20 ≤ 208 by omega) 5 _ rfl (by decide) rfl rfl rfl (fun d hd e => by omega) (by simp [execOp,Act.eval,go_sem,e0,e1,hi0,hi1])
               | 6,rfl =>
                have e0 : a'.tmps[174]?.getD undef = .pointer (some (ad.add q)) := hr.got' 5 _ (by decide) (hall ⟨5,.data⟩ (by simp) rfl) rfl;have q1 : w'.cell? (ad.add q) = some (.string x.1) := hS.2.1;exact hr.go hL (show 169 + 20 ≤ 208 by omega) 6 _ rfl (by decide) rfl rfl rfl (fun d hd e => by omega) (by simp [execOp,Act.eval,go_sem,e0,q1])
               | 7,rfl =>
                have e0 : a'.tmps[175]?.getD undef = .string x.1 := hr.got' 6 _ (by decide) (hall ⟨6,.data⟩ (by simp) rfl) rfl;exact wpOp_run (v := .slice (some ⟨w'.heap.size,0,none⟩) 1 1) (w2 := w'.alloc (.cells #[.string x.1] 9)) rfl rfl (by simp [execOp,Act.eval,go_sem,e0]) (hr.made hL (show 169 + 20 ≤ 208 by omega) 0 (by decide))
               | 8,rfl =>
                obtain ⟨g,v2,w2,e7,hrun,hR⟩ := hr.row0 hL (show 169 + 20 ≤ 208 by omega) (hall ⟨7,.data⟩ (by simp) rfl) (hall ⟨1,.data⟩ (by simp) rfl) hf rfl (by show D.length ≤ 100;omega);have e1 : a'.tmps[170]?.getD undef = .slice KA D.length KC := hr.got' 1 _ (by decide) (hall ⟨1,.data⟩ (by simp) rfl) rfl;have e2 : a'.tmps[176]?.getD undef = .slice (some ⟨g,0,none⟩) 1 1 := e7;have hrun' : (AppX #[23,23] 23 #[.slice KA D.length KC,.slice (some ⟨g,0,none⟩) 1 1]).run Tryz.prog w' = .ok v2 w2 := hrun;exact wpOp_run (v := v2) (w2 := w2) rfl rfl (by simp [Act.eval,go_sem,e1,e2];rw [hrun'];rfl) hR
               | 9,rfl =>
                exact hr.go hL (show 169 + 20 ≤ 208 by omega) 9 _ rfl (by decide) rfl rfl rfl (fun d hd e => by omega) (by simp [execOp,Act.eval,go_sem,k15])
               | 10,rfl =>
                have e0 : a'.tmps[178]?.getD undef = .pointer (some ⟨b,6,none⟩) := hr.got' 9 _ (by decide) (hall ⟨9,.data⟩ (by simp) rfl) rfl;obtain ⟨h8f,q'⟩ := hr.old 1 (by decide) hf;have q1 : w'.cell? ⟨b,6,none⟩ = some (.slice LA D.length LC) := q';exact hr.go hL (show 169 + 20 ≤ 208 by omega) 10 _ rfl (by decide) rfl rfl rfl (fun d2 hd2 e2 => by have e3 : d2 = 1 := (by omega);rw [e3];exact h8f) (by simp [execOp,Act.eval,go_sem,e0,q1])
               | 11,rfl =>
                exact hr.go hL (show 169 + 20 ≤ 208 by omega) 11 _ rfl (by decide) rfl rfl rfl (fun d hd e => by omega) (by simp [execOp,Act.eval,go_sem,kn])
               | 12,rfl =>
                have e0 : a'.tmps[180]?.getD undef = .pointer (some ⟨w.heap.size,6,none⟩) := hr.got' 11 _ (by decide) (hall ⟨11,.data⟩ (by simp) rfl) rfl;have q1 : w'.cell? ⟨w.heap.size,6,none⟩ = some (.slice (some ad2) l.length c2) := blk_cell hS.1.pa 6;exact hr.go hL (show 169 + 20 ≤ 208 by omega) 12 _ rfl (by decide) rfl rfl rfl (fun d hd e => by omega) (by simp [execOp,Act.eval,go_sem,e0,q1])
               | 13,rfl =>
                exact hr.go hL (show 169 + 20 ≤ 208 by omega) 13 _ rfl (by decide) rfl rfl rfl (fun d hd e => by omega) (by simp [execOp,Act.eval,go_sem,ki])
               | 14,rfl =>
                have e0 : a'.tmps[181]?.getD undef = .slice (some ad2) l.length c2 := hr.got' 12 _ (by decide) (hall ⟨12,.data⟩ (by simp) rfl) rfl;have e1 : a'.tmps[182]?.getD undef = .int .i64 q := hr.got' 13 _ (by decide) (hall ⟨13,.data⟩ (by simp) rfl) rfl;exact hr.go hL (show 169 + 20 ≤ 208 by omega) 14 _ rfl (by decide) rfl rfl rfl (fun d hd e => by omega) (by simp [execOp,Act.eval,go_sem,e0,e1,hi0,hi2])
               | 15,rfl =>
                have e0 : a'.tmps[183]?.getD undef = .pointer (some (ad2.add (q * 7))) := hr.got' 14 _ (by decide) (hall ⟨14,.data⟩ (by simp) rfl) rfl;obtain ⟨r0,r1,r2,r3,r4,r5,r6⟩ := hS.2.2.facts;exact hr.go hL (show 169 + 20 ≤ 208 by omega) 15 _ rfl (by decide) rfl rfl rfl (fun d hd e => by omega) (by simp [execOp,Act.eval,go_sem,e0,r0,r1,r2,r3,r4,r5,r6])
               | 16,rfl =>
                have e0 : a'.tmps[184]?.getD undef = .agg #[.int .i64 kx,.int .i64 nx,.float .f64 fx,.bool bxx,.string sx,.slice ax mx ccx,.slice ay my ccy] := hr.got' 15 _ (by decide) (hall ⟨15,.data⟩ (by simp) rfl) rfl;exact wpOp_run (v := .slice (some ⟨w'.heap.size,0,none⟩) 1 1) (w2 := w'.alloc (.cells #[.int .i64 kx,.int .i64 nx,.float .f64 fx,.bool bxx,.string sx,.slice ax mx ccx,.slice ay my ccy] 26)) rfl rfl (by simp [execOp,Act.eval,go_sem,e0]) (hr.made hL (show 169 + 20 ≤ 208 by omega) 1 (by decide))
               | 17,rfl =>
                obtain ⟨g,v2,w2,e7,hrun,hR⟩ := hr.row1 hL (show 169 + 20 ≤ 208 by omega) (hall ⟨16,.data⟩ (by simp) rfl) (hall ⟨10,.data⟩ (by simp) rfl) hf rfl (by show D.length ≤ 100;omega);have e1 : a'.tmps[179]?.getD undef = .slice LA D.length LC := hr.got' 10 _ (by decide) (hall ⟨10,.data⟩ (by simp) rfl) rfl;have e2 : a'.tmps[185]?.getD undef = .slice (some ⟨g,0,none⟩) 1 1 := e7;have hrun' : (AppX #[24,24] 24 #[.slice LA D.length LC,.slice (some ⟨g,0,none⟩) 1 1]).run Tryz.prog w' = .ok v2 w2 := hrun;exact wpOp_run (v := v2) (w2 := w2) rfl rfl (by simp [Act.eval,go_sem,e1,e2];rw [hrun'];rfl) hR
               | 18,rfl =>
                exact hr.go hL (show 169 + 20 ≤ 208 by omega) 18 _ rfl (by decide) rfl rfl rfl (fun d hd e => by omega) (by simp [execOp,Act.eval,go_sem,k15])
               | 19,rfl =>
                have e0 : a'.tmps[187]?.getD undef = .pointer (some ⟨b,5,none⟩) := hr.got' 18 _ (by decide) (hall ⟨18,.data⟩ (by simp) rfl) rfl;obtain ⟨A3,n3,c3,old3,e8,q1,fz,hst⟩ := hr.stored hL 0 (by decide) (hall ⟨8,.data⟩ (by simp) rfl);have e1 : a'.tmps[177]?.getD undef = .slice A3 n3 c3 := e8;exact wpOp_skip (w2 := w'.setCell ⟨b,5,none⟩ (.slice A3 n3 c3)) rfl rfl (by simp [execOp,Act.eval,go_sem,e0,e1,q1,fz]) ⟨lab',hst undef⟩
               | 20,rfl =>
                exact hr.go hL (show 169 + 20 ≤ 208 by omega) 20 _ rfl (by decide) rfl rfl rfl (fun d hd e => by omega) (by simp [execOp,Act.eval,go_sem,k15])
               | 21,rfl =>
                have e0 : a'.tmps[188]?.getD undef = .pointer (some ⟨b,6,none⟩) := hr.got' 20 _ (by decide) (hall ⟨20,.data⟩ (by simp) rfl) rfl;obtain ⟨A3,n3,c3,old3,e8,q1,fz,hst⟩ := hr.stored hL 1 (by decide) (hall ⟨17,.data⟩ (by simp) rfl);have e1 : a'.tmps[186]?.getD undef = .slice A3 n3 c3 := e8;exact wpOp_skip (w2 := w'.setCell ⟨b,6,none⟩ (.slice A3 n3 c3)) rfl rfl (by simp [execOp,Act.eval,go_sem,e0,e1,q1,fz]) ⟨lab',hst undef⟩
              ·intro u lab' w' kv lv hu hcl2 hk2 hl2 hm;have HSN := Lib.hid (HL.out.snoc hcl2 hk2 hl2 HE.out.2.2 hm);clear hcl2 hk2 hl2 hm
               match u,hu with
               | [y0,y1,y2,y3,y4,y5,y6,y7,y8,y9,y10,y11,y12,y13,y14,y15,y16,y17,y18,y19],_ =>
                simp only [List.take_succ_cons,List.take_zero,List.drop_succ_cons,List.drop_zero,List.cons_append,List.nil_append];go_wp2;go_roundw
                case rel =>
                 obtain ⟨KA2,KC2,LA2,LC2,h2⟩ := HSN.out;exact ⟨q + 1,r,D ++ [x],KA2,KC2,LA2,LC2,_,lab',by go_num,by go_num,by omega,by omega,by rw [List.append_assoc];exact HD2.out,by rw [List.length_append];show D.length + 1 ≤ _;omega,h2⟩
                case measure => simp [RowKit.intOf];omega
             | false =>
              obtain ⟨hrk,hsel⟩ : r < ks'.length ∧ (q = ks.length ∨ (q < ks.length ∧ bytesBefore (ks.getD q ⟨#[]⟩).data.toList (ks'.getD r ⟨#[]⟩).data.toList = false)) := by
               have h := HSEL.out;rw [Eq.comm,Bool.or_eq_false_iff,beq_eq_false_iff_ne,Bool.and_eq_false_iff,decide_eq_false_iff_not] at h;refine ⟨by omega,?_⟩;rcases h.2 with h2 | h2
               ·left;omega
               ·rcases Nat.lt_or_ge q ks.length with h1 | h1
                ·exact .inr ⟨h1,h2⟩
                ·left;omega
              obtain ⟨x,hxq⟩ : ∃ x,(ks'.zip l')[r]? = some x := ⟨_,List.getElem?_eq_getElem (by rw [List.length_zip];omega)⟩;have hxr : ks'[r]? = some x.1 := by rw [List.getElem?_zip_eq_some] at hxq;exact hxq.1
              obtain ⟨eqv,heqv⟩ : ∃ s : Bool,s = (decide (q < ks.length) && decide (ks.getD q ⟨#[]⟩ = x.1)) := ⟨_,rfl⟩;obtain ⟨q',hq'⟩ : ∃ q' : Nat,q' = if eqv = true then q + 1 else q := ⟨_,rfl⟩
              have hD2 : mrg (ks.zip l) (ks'.zip l') = D ++ (x :: mrg ((ks.zip l).drop q') ((ks'.zip l').drop (r + 1))) := by
               rw [HD.out,mrg_stepM (q' := q') hxq];rcases hsel with h | ⟨h1,h2⟩
               ·right
                rw [hq',heqv,decide_eq_false (by omega)];exact ⟨rfl,.inl (by rw [List.length_zip];omega)⟩
               ·have e1 : (ks.zip l)[q]? = some (ks[q],l[q]'(by omega)) := by rw [List.getElem?_eq_getElem (by rw [List.length_zip];omega),List.getElem_zip]
                rw [List.getD_eq_getElem?_getD,List.getD_eq_getElem?_getD,List.getElem?_eq_getElem h1,hxr] at h2;rw [List.getD_eq_getElem?_getD,List.getElem?_eq_getElem h1,decide_eq_true h1,Bool.true_and] at heqv;by_cases he : ks[q] = x.1
                ·left
                 rw [hq',heqv,decide_eq_true (show (some ks[q]).getD ⟨#[]⟩ = x.1 from he)];exact ⟨rfl,_,e1,he⟩
                ·right
                 rw [hq',heqv,decide_eq_false (show ¬ (some ks[q]).getD ⟨#[]⟩ = x.1 from he)];exact ⟨rfl,.inr ⟨_,e1,h2,he⟩⟩
              have hq8 : q ≤ q' ∧ q' ≤ ks.length := by
               rw [hq',heqv]
               split
               ·next h => rw [Bool.and_eq_true,decide_eq_true_eq] at h;omega
               ·omega
              have HD2 := Lib.hid hD2;have HQ := Lib.hid hq';have HEQ := Lib.hid heqv;clear hD2 hsel hlen hlen' hq' heqv;go_upto_region 12 with fail
              go_cut [118] from 101 to 119 (fun s wx => s = .bool eqv ∧ ∃ n,wx = wc.drewN n)
              case first =>
               by_cases hq1 : q < ks.length
               ·have hq2 : (q : Int) < (ks.length : Int) := by omega
                have hr2 : (r : Int) < (ks'.length : Int) := by omega
                have d3 : decide ((q : Int) < (ks.length : Int)) = true := decide_eq_true hq2;obtain ⟨kq,hkq⟩ : ∃ k,ks[q]? = some k := ⟨_,List.getElem?_eq_getElem hq1⟩;obtain ⟨ad,rfl,_,u1⟩ := HKL.out.1 q kq hkq;obtain ⟨ad',rfl,_,u2⟩ := HKL.out.2.2.1 r _ hxr;have u1 := HLC.out.below.cellB u1;have u2 := HLC.out.below.cellB u2;have es : eqv = decide (kq = x.1) := by rw [HEQ.out,List.getD_eq_getElem?_getD,hkq,decide_eq_true hq1];rfl
                have HES := Lib.hid es;clear hkq es;obtain ⟨p0,p1,p2,p3,p4,p5,p6,q0,q1,q2,q3,q4,q5,q6⟩ := HSTC.out.cells;go_quiet (fail);go_wp2;go_meet
                case rel => exact ⟨by rw [HES.out];exact congrArg Value.bool (eqL kq x.1),_,rfl⟩
               ·have hq2 : ¬ (q : Int) < (ks.length : Int) := by omega
                have d3 : decide ((q : Int) < (ks.length : Int)) = false := decide_eq_false hq2;have es : eqv = false := by rw [HEQ.out,decide_eq_false hq1];rfl
                have HES := Lib.hid es;clear es;obtain ⟨p0,p1,p2,p3,p4,p5,p6,q0,q1,q2,q3,q4,q5,q6⟩ := HSTC.out.cells;go_quiet (fail);go_wp2;go_meet
                case rel => exact ⟨by rw [HES.out],_,rfl⟩
              case rest =>
               obtain ⟨rfl,nd2,hwc2⟩ := hcut;have hL2 := HLC.out.drewN nd2;rw [← hwc2] at hL2;have HL := Lib.hid hL2;clear hwc2 hL2;go_upto_if 118 with fail
               go_cut [16] from 119 to 121 (fun s wx => s = .int .i64 q' ∧ wx = wc)
               case first =>
                have hq' := HQ.out;clear HQ HD2 HEQ
                cases eqv with
                | true =>
                 have hq'' : q' = q + 1 := by rw [hq'];rfl
                 subst hq'';clear hq';go_wp2;go_meet
                 case rel => exact ⟨rfl,rfl⟩
                | false =>
                 have hq'' : q' = q := by rw [hq'];rfl
                 subst hq'';clear hq';go_wp2;go_meet
                 case rel => exact ⟨rfl,rfl⟩
               case rest =>
                obtain ⟨rfl,hwc3⟩ := hcut;have hwc3' := hwc3.symm;clear hwc3;subst hwc3';have hrw : IntKind.i64.wrap ((r : Int) + 1) = ((r + 1 : Nat) : Int) := by rw [show (r : Int) + 1 = ((r + 1 : Nat) : Int) from by omega];exact Lib.wrap_i64_small _ (by omega)
                go_upto_region 14 with fail
                obtain ⟨ad,ad2,cx,e1,e2,hx1,hx2,hx3⟩ := elem_at HKL.out.2.2.1 HKL.out.2.2.2 hxq;subst e1 e2;obtain ⟨kx,nx,fx,bxx,sx,ax,mx,ccx,ay,my,ccy,rfl⟩ := hx3.shape;have HE := Lib.hid (aI hx1 (aI hx2 hx3));have HS5 := Lib.hid (fun (lab' : Lab) (w' : World) (m : Mv KB5 wc labr w' lab') => (⟨H6.out.step ((HL.out.mv.trans m (fun _ h => h)).toBelow (Nat.le_refl _) (fun k _ h => by have e : L0 k = 0 := rfl;have : L0 k = 50 ∨ L0 k = 51 ∨ L0 k = 52 := h;omega)),((HL.out.mv.trans m (fun _ h => h)).toBelow (Nat.le_refl _) (fun k _ h => by have e : L0 k = 0 := rfl;have : L0 k = 50 ∨ L0 k = 51 ∨ L0 k = 52 := h;omega)).cellB hx1,cell7.below hx2 ((HL.out.mv.trans m (fun _ h => h)).toBelow (Nat.le_refl _) (fun k _ h => by have e : L0 k = 0 := rfl;have : L0 k = 50 ∨ L0 k = 51 ∨ L0 k = 52 := h;omega))⟩ : St w _ _ w' ∧ w'.cell? (ad.add r) = some (.string x.1) ∧ cell7 w' ad2 r (ndC kx nx fx bxx sx (.slice ax mx ccx) (.slice ay my ccy))));have hi0 : (0 : Int) ≤ (r : Int) := Int.natCast_nonneg _;have hi1 : (r : Int) < (ks'.length : Int) := by omega
                have hi2 : (r : Int) < (l'.length : Int) := by have := HLEN.out;omega
                clear hx1 hx2 hx3;unfold ndC at *;refine rows_region ⟨fun d => if d = 0 then .slice KA D.length KC else .slice LA D.length LC,fun _ => D.length,fun d => if d = 0 then D.map fun x => .string x.1 else vals,fun d => if d = 0 then [.string x.1] else [.int .i64 kx,.int .i64 nx,.float .f64 fx,.bool bxx,.string sx,.slice ax mx ccx,.slice ay my ccy],fun i => match i with
                 | 0 => some (.pointer (some ⟨b,5,none⟩))
                 | 1 => some (.slice KA D.length KC)
                 | 2 => some (.pointer (some ⟨w.heap.size + 1,5,none⟩))
                 | 3 => some (.slice (some ad) ks'.length c1')
                 | 4 => some (.int .i64 r)
                 | 5 => some (.pointer (some (ad.add r)))
                 | 6 => some (.string x.1)
                 | 9 => some (.pointer (some ⟨b,6,none⟩))
                 | 10 => some (.slice LA D.length LC)
                 | 11 => some (.pointer (some ⟨w.heap.size + 1,6,none⟩))
                 | 12 => some (.slice (some ad2) l'.length c2')
                 | 13 => some (.int .i64 r)
                 | 14 => some (.pointer (some (ad2.add (r * 7))))
                 | 15 => some (.agg #[.int .i64 kx,.int .i64 nx,.float .f64 fx,.bool bxx,.string sx,.slice ax mx ccx,.slice ay my ccy])
                 | 18 => some (.pointer (some ⟨b,5,none⟩))
                 | 20 => some (.pointer (some ⟨b,6,none⟩))
                 | _ => none,fun d hd => by match d,hd with | 0,_ | 1,_ => exact ⟨rfl,rfl,rfl⟩⟩
                 121 HL.out.cl (fun d hd => by match d,hd with | 0,_ => exact HL.out.kr | 1,_ => exact HL.out.lr) mixed (by kernel_rfl) rfl rfl (show 121 + 20 ≤ 208 by omega) ?_ ?_
                ·intro L a' lab' w' i o hL ho hf hall hr;have k15 : a'.tmps[15]?.getD undef = .pointer (some ⟨b,0,none⟩) := hr.kept' 15 _ (by omega) rfl;have kn : a'.tmps[5]?.getD undef = .pointer (some ⟨w.heap.size + 1,0,none⟩) := hr.kept' 5 _ (by omega) rfl;have ki : a'.tmps[17]?.getD undef = .int .i64 r := hr.kept' 17 _ (by omega) rfl;have hS := HS5.out lab' w' hr.mv
                 match i,ho with
                 | 0,rfl =>
                  exact hr.go hL (show 121 + 20 ≤ 208 by omega) 0 _ rfl (by decide) rfl rfl rfl (fun d hd e => by omega) (by simp [execOp,Act.eval,go_sem,k15])
                 | 1,rfl =>
                  have e0 : a'.tmps[121]?.getD undef = .pointer (some ⟨b,5,none⟩) := hr.got' 0 _ (by decide) (hall ⟨0,.data⟩ (by simp) rfl) rfl;obtain ⟨h8f,q'⟩ := hr.old 0 (by decide) hf;have q1 : w'.cell? ⟨b,5,none⟩ = some (.slice KA D.length KC) := q';exact hr.go hL (show 121 + 20 ≤ 208 by omega) 1 _ rfl (by decide) rfl rfl rfl (fun d2 hd2 e2 => by have e3 : d2 = 0 := (by omega);rw [e3];exact h8f) (by simp [execOp,Act.eval,go_sem,e0,q1])
                 | 2,rfl =>
                  exact hr.go hL (show 121 + 20 ≤ 208 by omega) 2 _ rfl (by decide) rfl rfl rfl (fun d hd e => by omega) (by simp [execOp,Act.eval,go_sem,kn])
                 | 3,rfl =>
                  have e0 : a'.tmps[123]?.getD undef = .pointer (some ⟨w.heap.size + 1,5,none⟩) := hr.got' 2 _ (by decide) (hall ⟨2,.data⟩ (by simp) rfl) rfl;have q1 : w'.cell? ⟨w.heap.size + 1,5,none⟩ = some (.slice (some ad) ks'.length c1') := blk_cell hS.1.pb 5;exact hr.go hL (show 121 + 20 ≤ 208 by omega) 3 _ rfl (by decide) rfl rfl rfl (fun d hd e => by omega) (by simp [execOp,Act.eval,go_sem,e0,q1])
                 | 4,rfl =>
                  exact hr.go hL (show 121 + 20 ≤ 208 by omega) 4 _ rfl (by decide) rfl rfl rfl (fun d hd e => by omega) (by simp [execOp,Act.eval,go_sem,ki])
                 | 5,rfl =>
                  have e0 : a'.tmps[124]?.getD undef = .slice (some ad) ks'.length c1' := hr.got' 3 _ (by decide) (hall ⟨3,.data⟩ (by simp) rfl) rfl;have e1 : a'.tmps[125]?.getD undef = .int .i64 r := hr.got' 4 _ (by decide) (hall ⟨4,.data⟩ (by simp) rfl) rfl;exact hr.go hL (show 121 + 20 ≤ 208 by omega) 5 _ rfl (by decide) rfl rfl rfl (fun d hd e => by omega) (by simp [execOp,Act.eval,go_sem,e0,e1,hi0,hi1])
                 | 6,rfl =>
                  have e0 : a'.tmps[126]?.getD undef = .pointer (some (ad.add r)) := hr.got' 5 _ (by decide) (hall ⟨5,.data⟩ (by simp) rfl) rfl;have q1 : w'.cell? (ad.add r) = some (.string x.1) := hS.2.1;exact hr.go hL (show 121 + 20 ≤ 208 by omega) 6 _ rfl (by decide) rfl rfl rfl (fun d hd e => by omega) (by simp [execOp,Act.eval,go_sem,e0,q1])
                 | 7,rfl =>
                  have e0 : a'.tmps[127]?.getD undef = .string x.1 := hr.got' 6 _ (by decide) (hall ⟨6,.data⟩ (by simp) rfl) rfl;exact wpOp_run (v := .slice (some ⟨w'.heap.size,0,none⟩) 1 1) (w2 := w'.alloc (.cells #[.string x.1] 9)) rfl rfl (by simp [execOp,Act.eval,go_sem,e0]) (hr.made hL (show 121 + 20 ≤ 208 by omega) 0 (by decide))
                 | 8,rfl =>
                  obtain ⟨g,v2,w2,e7,hrun,hR⟩ := hr.row0 hL (show 121 + 20 ≤ 208 by omega) (hall ⟨7,.data⟩ (by simp) rfl) (hall ⟨1,.data⟩ (by simp) rfl) hf rfl (by show D.length ≤ 100;omega);have e1 : a'.tmps[122]?.getD undef = .slice KA D.length KC := hr.got' 1 _ (by decide) (hall ⟨1,.data⟩ (by simp) rfl) rfl;have e2 : a'.tmps[128]?.getD undef = .slice (some ⟨g,0,none⟩) 1 1 := e7;have hrun' : (AppX #[23,23] 23 #[.slice KA D.length KC,.slice (some ⟨g,0,none⟩) 1 1]).run Tryz.prog w' = .ok v2 w2 := hrun;exact wpOp_run (v := v2) (w2 := w2) rfl rfl (by simp [Act.eval,go_sem,e1,e2];rw [hrun'];rfl) hR
                 | 9,rfl =>
                  exact hr.go hL (show 121 + 20 ≤ 208 by omega) 9 _ rfl (by decide) rfl rfl rfl (fun d hd e => by omega) (by simp [execOp,Act.eval,go_sem,k15])
                 | 10,rfl =>
                  have e0 : a'.tmps[130]?.getD undef = .pointer (some ⟨b,6,none⟩) := hr.got' 9 _ (by decide) (hall ⟨9,.data⟩ (by simp) rfl) rfl;obtain ⟨h8f,q'⟩ := hr.old 1 (by decide) hf;have q1 : w'.cell? ⟨b,6,none⟩ = some (.slice LA D.length LC) := q';exact hr.go hL (show 121 + 20 ≤ 208 by omega) 10 _ rfl (by decide) rfl rfl rfl (fun d2 hd2 e2 => by have e3 : d2 = 1 := (by omega);rw [e3];exact h8f) (by simp [execOp,Act.eval,go_sem,e0,q1])
                 | 11,rfl =>
                  exact hr.go hL (show 121 + 20 ≤ 208 by omega) 11 _ rfl (by decide) rfl rfl rfl (fun d hd e => by omega) (by simp [execOp,Act.eval,go_sem,kn])
                 | 12,rfl =>
                  have e0 : a'.tmps[132]?.getD undef = .pointer (some ⟨w.heap.size + 1,6,none⟩) := hr.got' 11 _ (by decide) (hall ⟨11,.data⟩ (by simp) rfl) rfl;have q1 : w'.cell? ⟨w.heap.size + 1,6,none⟩ = some (.slice (some ad2) l'.length c2') := blk_cell hS.1.pb 6;exact hr.go hL (show 121 + 20 ≤ 208 by omega) 12 _ rfl (by decide) rfl rfl rfl (fun d hd e => by omega) (by simp [execOp,Act.eval,go_sem,e0,q1])
                 | 13,rfl =>
                  exact hr.go hL (show 121 + 20 ≤ 208 by omega) 13 _ rfl (by decide) rfl rfl rfl (fun d hd e => by omega) (by simp [execOp,Act.eval,go_sem,ki])
                 | 14,rfl =>
                  have e0 : a'.tmps[133]?.getD undef = .slice (some ad2) l'.length c2' := hr.got' 12 _ (by decide) (hall ⟨12,.data⟩ (by simp) rfl) rfl;have e1 : a'.tmps[134]?.getD undef = .int .i64 r := hr.got' 13 _ (by decide) (hall ⟨13,.data⟩ (by simp) rfl) rfl;exact hr.go hL (show 121 + 20 ≤ 208 by omega) 14 _ rfl (by decide) rfl rfl rfl (fun d hd e => by omega) (by simp [execOp,Act.eval,go_sem,e0,e1,hi0,hi2])
                 | 15,rfl =>
                  have e0 : a'.tmps[135]?.getD undef = .pointer (some (ad2.add (r * 7))) := hr.got' 14 _ (by decide) (hall ⟨14,.data⟩ (by simp) rfl) rfl;obtain ⟨r0,r1,r2,r3,r4,r5,r6⟩ := hS.2.2.facts;exact hr.go hL (show 121 + 20 ≤ 208 by omega) 15 _ rfl (by decide) rfl rfl rfl (fun d hd e => by omega) (by simp [execOp,Act.eval,go_sem,e0,r0,r1,r2,r3,r4,r5,r6])
                 | 16,rfl =>
                  have e0 : a'.tmps[136]?.getD undef = .agg #[.int .i64 kx,.int .i64 nx,.float .f64 fx,.bool bxx,.string sx,.slice ax mx ccx,.slice ay my ccy] := hr.got' 15 _ (by decide) (hall ⟨15,.data⟩ (by simp) rfl) rfl;exact wpOp_run (v := .slice (some ⟨w'.heap.size,0,none⟩) 1 1) (w2 := w'.alloc (.cells #[.int .i64 kx,.int .i64 nx,.float .f64 fx,.bool bxx,.string sx,.slice ax mx ccx,.slice ay my ccy] 26)) rfl rfl (by simp [execOp,Act.eval,go_sem,e0]) (hr.made hL (show 121 + 20 ≤ 208 by omega) 1 (by decide))
                 | 17,rfl =>
                  obtain ⟨g,v2,w2,e7,hrun,hR⟩ := hr.row1 hL (show 121 + 20 ≤ 208 by omega) (hall ⟨16,.data⟩ (by simp) rfl) (hall ⟨10,.data⟩ (by simp) rfl) hf rfl (by show D.length ≤ 100;omega);have e1 : a'.tmps[131]?.getD undef = .slice LA D.length LC := hr.got' 10 _ (by decide) (hall ⟨10,.data⟩ (by simp) rfl) rfl;have e2 : a'.tmps[137]?.getD undef = .slice (some ⟨g,0,none⟩) 1 1 := e7;have hrun' : (AppX #[24,24] 24 #[.slice LA D.length LC,.slice (some ⟨g,0,none⟩) 1 1]).run Tryz.prog w' = .ok v2 w2 := hrun;exact wpOp_run (v := v2) (w2 := w2) rfl rfl (by simp [Act.eval,go_sem,e1,e2];rw [hrun'];rfl) hR
                 | 18,rfl =>
                  exact hr.go hL (show 121 + 20 ≤ 208 by omega) 18 _ rfl (by decide) rfl rfl rfl (fun d hd e => by omega) (by simp [execOp,Act.eval,go_sem,k15])
                 | 19,rfl =>
                  have e0 : a'.tmps[139]?.getD undef = .pointer (some ⟨b,5,none⟩) := hr.got' 18 _ (by decide) (hall ⟨18,.data⟩ (by simp) rfl) rfl;obtain ⟨A3,n3,c3,old3,e8,q1,fz,hst⟩ := hr.stored hL 0 (by decide) (hall ⟨8,.data⟩ (by simp) rfl);have e1 : a'.tmps[129]?.getD undef = .slice A3 n3 c3 := e8;exact wpOp_skip (w2 := w'.setCell ⟨b,5,none⟩ (.slice A3 n3 c3)) rfl rfl (by simp [execOp,Act.eval,go_sem,e0,e1,q1,fz]) ⟨lab',hst undef⟩
                 | 20,rfl =>
                  exact hr.go hL (show 121 + 20 ≤ 208 by omega) 20 _ rfl (by decide) rfl rfl rfl (fun d hd e => by omega) (by simp [execOp,Act.eval,go_sem,k15])
                 | 21,rfl =>
                  have e0 : a'.tmps[140]?.getD undef = .pointer (some ⟨b,6,none⟩) := hr.got' 20 _ (by decide) (hall ⟨20,.data⟩ (by simp) rfl) rfl;obtain ⟨A3,n3,c3,old3,e8,q1,fz,hst⟩ := hr.stored hL 1 (by decide) (hall ⟨17,.data⟩ (by simp) rfl);have e1 : a'.tmps[138]?.getD undef = .slice A3 n3 c3 := e8;exact wpOp_skip (w2 := w'.setCell ⟨b,6,none⟩ (.slice A3 n3 c3)) rfl rfl (by simp [execOp,Act.eval,go_sem,e0,e1,q1,fz]) ⟨lab',hst undef⟩
                ·intro u lab' w' kv lv hu hcl2 hk2 hl2 hm;have HSN := Lib.hid (HL.out.snoc hcl2 hk2 hl2 HE.out.2.2 hm);clear hcl2 hk2 hl2 hm
                 match u,hu with
                 | [y0,y1,y2,y3,y4,y5,y6,y7,y8,y9,y10,y11,y12,y13,y14,y15,y16,y17,y18,y19],_ =>
                  simp only [List.take_succ_cons,List.take_zero,List.drop_succ_cons,List.drop_zero,List.cons_append,List.nil_append];go_wp2;go_roundw
                  case rel =>
                   obtain ⟨KA2,KC2,LA2,LC2,h2⟩ := HSN.out;exact ⟨q',r + 1,D ++ [x],KA2,KC2,LA2,LC2,_,lab',by go_num,by go_num,by omega,by omega,by rw [List.append_assoc];exact HD2.out,by rw [List.length_append];show D.length + 1 ≤ _;omega,h2⟩
                  case measure => simp [RowKit.intOf];omega
end
end Go.Cf
namespace Go.Cf
open Go.ChangeShapes Go.WideShapes Go.ChangeAt Go.RowKit Go.Joins Go.Deep Go.Proofs
section
variable {H : Type} {enc : TypeId × Value → H} {P : Program} {w : World} {base : Nat} {spare : Nat → Bool} {held : Bool}
theorem open_row7 {fuel : Nat} {t : TypeId} {f0 f1 f2 f3 f4 f5 f6 : Field} {cs : List Value} {x : DataW H × List MemPlace} (hs : P.underlying t = some (.struct #[f0,f1,f2,f3,f4,f5,f6])) (hone : oneCellFields P #[f0,f1,f2,f3,f4,f5,f6] = true) (hC : P.cellsOf t = 7)
  (h : DataW.trod enc P w base spare held fuel t cs = some x) :
  ∃ (v0 v1 v2 v3 v4 v5 v6 : Value) (y0 y1 y2 y3 y4 y5 y6 : DataW H × List MemPlace) (n : Nat),cs = [v0,v1,v2,v3,v4,v5,v6] ∧
   DataW.trod enc P w base spare held n f0.type [v0] = some y0 ∧ DataW.trod enc P w base spare held n f1.type [v1] = some y1 ∧ DataW.trod enc P w base spare held n f2.type [v2] = some y2 ∧ DataW.trod enc P w base spare held n f3.type [v3] = some y3 ∧ DataW.trod enc P w base spare held n f4.type [v4] = some y4 ∧ DataW.trod enc P w base spare held n f5.type [v5] = some y5 ∧ DataW.trod enc P w base spare held n f6.type [v6] = some y6 := by
 obtain ⟨xs,n,_,hx,hl,hlen,hg⟩ := DataW.trod_struct hs h
 match cs,hl.trans hC with
 | [c0,c1,c2,c3,c4,c5,c6],_ =>
  obtain ⟨o0,k0⟩ := hone_of hone 0 f0 rfl;obtain ⟨o1,k1⟩ := hone_of hone 1 f1 rfl;obtain ⟨o2,k2⟩ := hone_of hone 2 f2 rfl;obtain ⟨o3,k3⟩ := hone_of hone 3 f3 rfl;obtain ⟨o4,k4⟩ := hone_of hone 4 f4 rfl;obtain ⟨o5,k5⟩ := hone_of hone 5 f5 rfl;obtain ⟨o6,k6⟩ := hone_of hone 6 f6 rfl
  match xs,hlen with
  | [y0,y1,y2,y3,y4,y5,y6],_ =>
   exact ⟨c0,c1,c2,c3,c4,c5,c6,y0,y1,y2,y3,y4,y5,y6,n,rfl,by simpa [o0,k0] using hg 0 f0 rfl,by simpa [o1,k1] using hg 1 f1 rfl,by simpa [o2,k2] using hg 2 f2 rfl,by simpa [o3,k3] using hg 3 f3 rfl,by simpa [o4,k4] using hg 4 f4 rfl,by simpa [o5,k5] using hg 5 f5 rfl,by simpa [o6,k6] using hg 6 f6 rfl⟩
theorem trod_fl {t : TypeId} {k : FloatKind} {fuel : Nat} {cs : List Value} {x : DataW H × List MemPlace} (ht : P.underlying t = some (.float k)) (h : DataW.trod enc P w base spare held fuel t cs = some x) : ∃ n,cs = [.float k n] := by
 cases fuel with
 | zero => simp [DataW.trod] at h
 | succ n =>
  unfold DataW.trod at h;rw [ht] at h
  split at h <;> simp_all
theorem keys_of {t e : TypeId} {fuel : Nat} {cs : List Value} {x : DataW H × List MemPlace} (ht : P.underlying t = some (.slice e)) (he : P.underlying e = some .string) (hc : P.cellsOf e = 1) (h : DataW.trod enc P w base (fun _ => true) held fuel t cs = some x) :
  ∃ a len cap,cs = [.slice a len cap] ∧ len ≤ maxLen ∧ KeysIn w a len := by
 rcases open_strs ht he hc h with ⟨rfl,_⟩ | ⟨a,len,cap,m,Sx,rfl,hb,hl,hm,hmm,_,hS⟩
 ·exact ⟨none,0,0,rfl,Nat.zero_le _,.inl rfl⟩
 ·refine ⟨some a,len,cap,rfl,Nat.le_trans hl hm,.inr ⟨a,rfl,fun i hi => ⟨Sx i,hS i ?_⟩⟩⟩;rw [hmm,if_pos rfl];omega
theorem style_of {t e : TypeId} {fuel : Nat} {cs : List Value} {x : DataW H × List MemPlace} (ht : P.underlying t = some (.slice e)) (he : P.underlying e = some (.int .u8)) (hc : P.cellsOf e = 1) (h : DataW.trod enc P w base (fun _ => true) held fuel t cs = some x) :
  ∃ (a : Option Addr) (c : Nat) (style : List UInt8),cs = [.slice a style.length c] ∧ style.length ≤ maxLen ∧ Sty L0 w (.slice a style.length c) style := by
 rcases open_ints ht he hc h with ⟨rfl,_⟩ | ⟨a,len,cap,zs,rfl,hb,hl,hm,hz,_,hS,hwf⟩
 ·exact ⟨none,0,[],rfl,Nat.zero_le _,none,0,rfl,Nat.le_refl _,Nat.zero_le _,fun h => absurd rfl h⟩
 ·rw [if_pos rfl] at hz;have hlen : ((zs.take len).map fun z => UInt8.ofNat z.toNat).length = len := by rw [List.length_map,List.length_take];omega
  refine ⟨some a,cap,(zs.take len).map fun z => UInt8.ofNat z.toNat,by rw [hlen],by rw [hlen];omega,some a,cap,rfl,by rw [hlen];exact hl,hm,fun _ => ⟨a,rfl,rfl,fun i y hy => ?_⟩⟩;rw [List.getElem?_map,Option.map_eq_some_iff] at hy;obtain ⟨z,hz1,rfl⟩ := hy;have hil : i < len := by
   have := (List.getElem?_eq_some_iff.1 hz1).1;rw [List.length_take] at this;omega
  rw [List.getElem?_take_of_lt hil] at hz1;have hw := hwf z (List.mem_of_getElem? hz1);have hr : 0 ≤ z ∧ z ≤ 255 := by simpa [Lit.wf,IntKind.min,IntKind.max,IntKind.signed,IntKind.bits] using hw
  rw [hS i (by omega),List.getD_eq_getElem?_getD,hz1];simp only [Option.getD_some,Option.some.injEq,Value.int.injEq,true_and];rw [UInt8.toNat_ofNat_of_lt' (by show z.toNat < 256;omega)];omega
end
theorem cells9' : Tryz.prog.cellsOf 9 = 1 := by kernel_rfl
theorem cells26' : Tryz.prog.cellsOf 26 = 7 := by kernel_rfl
theorem addr_add2 (a : Addr) (i j : Nat) : (a.add i).add j = a.add (i + j) := by
 unfold Addr.add;by_cases hj : j = 0
 ·subst hj;simp
 ·by_cases hi : i = 0
  ·subst hi;simp
  ·simp [hi,hj];omega
section
variable {H : Type} {enc : TypeId × Value → H} {w : World} {base : Nat} {held : Bool}
theorem ndr_of : ∀ (d fuel : Nat) {cs : List Value} {x : DataW H × List MemPlace},DataW.trod enc Tryz.prog w base (fun _ => true) held fuel 26 cs = some x → NdR w d cs.toArray := by
 intro d
 induction d with
 | zero =>
  intro fuel cs x h;obtain ⟨c0,c1,c2,c3,c4,c5,c6,y0,y1,y2,y3,y4,y5,y6,n,rfl,t0,t1,t2,t3,t4,t5,t6⟩ := open_row7 Tryz.underlying26 (by kernel_rfl) cells26' h;obtain ⟨k,e0,-,-⟩ := DataW.trod_int Tryz.underlying3 t0;obtain ⟨m,e1,-,w1⟩ := DataW.trod_int Tryz.underlying2 t1;obtain ⟨f,e2⟩ := trod_fl Tryz.underlying22 t2;obtain ⟨b,e3,-⟩ := DataW.trod_bool Tryz.underlying4 t3;obtain ⟨s,e4,-,ws⟩ := DataW.trod_string Tryz.underlying9 t4;obtain ⟨a1,m1,k1,e5,wm,hk⟩ := keys_of Tryz.underlying23 Tryz.underlying9 cells9' t5;have h6 := open_slice Tryz.underlying24 t6;simp only [List.cons.injEq,and_true] at e0 e1 e2 e3 e4 e5;subst e0 e1 e2 e3 e4 e5;have u1 : -9223372036854775808 ≤ m ∧ m ≤ 9223372036854775807 := by simpa [Lit.wf,IntKind.min,IntKind.max,IntKind.signed,IntKind.bits] using w1
  unfold NdR;rcases h6 with ⟨e6,_⟩ | ⟨a2,m2,k2,mm,n2,D,Pl,e6,hb,hl,hm,hmm,_,hel⟩
  ·simp only [List.cons.injEq,and_true] at e6;subst e6;exact ⟨k,m,f,b,s,a1,m1,k1,none,0,0,rfl,u1.1,u1.2,ws,wm,Nat.zero_le _,hk,trivial⟩
  ·simp only [List.cons.injEq,and_true] at e6;subst e6;exact ⟨k,m,f,b,s,a1,m1,k1,some a2,m2,k2,rfl,u1.1,u1.2,ws,wm,Nat.le_trans hl hm,hk,trivial⟩
 | succ d ih =>
  intro fuel cs x h;obtain ⟨c0,c1,c2,c3,c4,c5,c6,y0,y1,y2,y3,y4,y5,y6,n,rfl,t0,t1,t2,t3,t4,t5,t6⟩ := open_row7 Tryz.underlying26 (by kernel_rfl) cells26' h;obtain ⟨k,e0,-,-⟩ := DataW.trod_int Tryz.underlying3 t0;obtain ⟨m,e1,-,w1⟩ := DataW.trod_int Tryz.underlying2 t1;obtain ⟨f,e2⟩ := trod_fl Tryz.underlying22 t2;obtain ⟨b,e3,-⟩ := DataW.trod_bool Tryz.underlying4 t3;obtain ⟨s,e4,-,ws⟩ := DataW.trod_string Tryz.underlying9 t4;obtain ⟨a1,m1,k1,e5,wm,hk⟩ := keys_of Tryz.underlying23 Tryz.underlying9 cells9' t5;have h6 := open_slice Tryz.underlying24 t6;simp only [List.cons.injEq,and_true] at e0 e1 e2 e3 e4 e5;subst e0 e1 e2 e3 e4 e5;have u1 : -9223372036854775808 ≤ m ∧ m ≤ 9223372036854775807 := by simpa [Lit.wf,IntKind.min,IntKind.max,IntKind.signed,IntKind.bits] using w1
  unfold NdR;rcases h6 with ⟨e6,_⟩ | ⟨a2,m2,k2,mm,n2,D,Pl,e6,hb,hl,hm,hmm,_,hel⟩
  ·simp only [List.cons.injEq,and_true] at e6;subst e6;exact ⟨k,m,f,b,s,a1,m1,k1,none,0,0,rfl,u1.1,u1.2,ws,wm,Nat.zero_le _,hk,fun i hi => absurd hi (Nat.not_lt_zero _)⟩
  ·simp only [List.cons.injEq,and_true] at e6;subst e6;refine ⟨k,m,f,b,s,a1,m1,k1,some a2,m2,k2,rfl,u1.1,u1.2,ws,wm,Nat.le_trans hl hm,hk,fun i hi => ?_⟩;obtain ⟨cs',h1,h2⟩ := hel i (by rw [hmm,if_pos rfl];omega);rw [cells26'] at h1;obtain ⟨g0,g1,g2⟩ := World.cells?_some h1;refine ⟨a2,cs'.toArray,rfl,fun j hj => ?_,ih _ h2⟩;rw [← addr_add2,g2 j hj,List.getElem?_toArray]
end
end Go.Cf
