/-
  Texts joined: Iu Gm Fq Gw Ry Gt Vi.
-/
import Derived.Test.YtackodbeohaidaaGreatDoorBq010
import Derived.Test.YtackodbeohaidaaGreatDoorBq011
import Derived.Test.YtackodbeohaidaaGreatDoorBq012
import Derived.BigQuiet
namespace Go.Cf
open Go.RowKit Go.Conc Go.Proofs
attribute [local go_sem ↓] mk75z mk61
section
variable {B : Nat} {lab lab1 : Lab} {w w1 : World} {K : PK} {X X' : PX} {M : Nat → Prop}
set_option maxRecDepth 100000 in
set_option maxHeartbeats 2000000 in
theorem item_num (h : PAt B lab w K X) (hB : B ≤ w.heap.size) (hped : K.ped = false) (xv : ByteArray) (xl xp : Int) (f : Nat) (hg : FltGives f xv) (hs : X.Sets (.num f) X') :
  Calls Tryz.prog 57 #[.pointer (some ⟨K.p,0,none⟩),.agg #[i64 (8 : Nat),.string xv,i64 xl,i64 xp],.string { data := #[] }] w fun e w' => e = .returned .nilIface ∧ ∃ lab',PAt B lab' w' K X' ∧ Mv PM w lab w' lab' := by
 obtain ⟨lab1,hb,m1⟩ := h.boxed hB 8 xv xl xp;have HBX := Lib.hid (aI hb m1);have HG := Lib.hid hg;have HS := Lib.hid hs;clear hb m1 hg hs h;go_enter Tryz.func57,Tryz.ntmps57;go_wp2_with fail;refine (HG.out _).mono ?_;rintro e w2 ⟨rfl,hb2⟩;have m2 : Mv (fun _ => False) (Boxed w K 8 xv xl xp) lab1 w2 _ := Mv.below hb2 lab1 7;have hb := HBX.out.1;have d0 := (hb.b0.mv m2 (fun h => h));have d1 := (hb.b1.mv m2 (fun h => h));have q0 : w2.cell? ⟨w.heap.size + 1,0,none⟩ = some (i64 (8 : Nat)) := d1.cell 0;have q1 : w2.cell? ⟨w.heap.size + 1,1,none⟩ = some (.string xv) := d1.cell 1;have q2 : w2.cell? ⟨w.heap.size + 1,2,none⟩ = some (i64 xl) := d1.cell 2;have q3 : w2.cell? ⟨w.heap.size + 1,3,none⟩ = some (i64 xp) := d1.cell 3;have HC := Lib.hid (lay_c (hb.pat.mv m2 (fun _ _ h => h)) (Nat.le_trans hb.hB hb2.size) hped HS.out 22 (.float .f64 f) rfl _ (w.heap.size + 1 + 1) d0 8 xv xl xp);have HM := Lib.hid (HBX.out.2.trans (m2.mono (M' := PM) (fun _ h => h.elim)) (fun _ h => h));clear hb2 m2 hb d0 d1;go_wp2_with fail;refine HC.out.mono ?_;rintro e w6 ⟨rfl,lab6,h6,m6⟩;go_wp2;go_ret;exact ⟨rfl,lab6,h6,HM.out.trans m6 (fun _ h => h)⟩
end
section
variable {K : PK} {s : ByteArray} {p : Nat} {sk : List Nat} {cx cx1 fin : List CJ} {ks ks1 : List ByteArray} {pt n : Nat} {T : ByteArray}
theorem works_flt (hK : K.ped = false) (L : LX) (x : It) (hx : x.typ = 8) (f : Nat) (hv : FltGives f x.val) (hs : (⟨L,cx,ks⟩ : PX).Sets (.num f) ⟨L,cx1,ks1⟩) : Works K ⟨L,cx,ks⟩ x ⟨L,cx1,ks1⟩ := by
 intro B lab w hB hp _;obtain ⟨xt,xv,xl,xp⟩ := x;obtain rfl : xt = 8 := hx;exact item_num hp hB hK xv xl xp f hv hs
theorem fd_flt {f : Nat} (hK : K.ped = false) (hsp : FltSp f T) (h : Has s p T) (hlt : p + T.size < s.size) (htm : tmB (byteAt s (p + T.size))) (hl : sk.length ≤ 900000) (hs : ∀ L,(⟨L,cx,ks⟩ : PX).Sets (.num f) ⟨L,cx1,ks1⟩)
  (rest : ∀ pt',pt' ≠ 3 → Fd K s (p + T.size) (p + T.size) sk (plainT n) cx1 ks1 pt' fin) : Fd K s p p (sk ++ [n]) (plainT 174) cx ks pt fin := by
 obtain ⟨sg,m,F,hsg,hm,hF,hd,rfl,hg⟩ := hsp;obtain ⟨line,E⟩ := rd_flt sg m F hsg hm hF hd h hlt htm (stk := sk ++ [n]) (sk := sk) (n := n) rfl (by omega);exact Fd.step E (by decide) (fun L x h1 h2 _ => works_flt hK L x h1 f (by rw [h2];exact hg) (hs L)) (rest 8 (by decide))
end
end Go.Cf
namespace Go.Cf
open Go.RowKit Go.Conc Go.Proofs
def puts : List ByteArray → List JV → List (ByteArray × JV) → List (ByteArray × JV)
 | k :: ks,j :: l,m => puts ks l (putL k j m)
 | _,_,m => m
theorem putL_mem {k : ByteArray} {j : JV} {m : List (ByteArray × JV)} {y : ByteArray × JV} (h : y ∈ putL k j m) : y = (k,j) ∨ y ∈ m := by
 have key : ∀ l : List (ByteArray × JV),y ∈ insL (k,j) l → y = (k,j) ∨ y ∈ l := by
  intro l
  induction l with
  | nil => intro h;simpa [insL] using h
  | cons x r ih =>
   intro h;unfold insL at h
   split at h
   ·rcases List.mem_cons.1 h with h | h
    ·exact .inl h
    ·exact .inr h
   ·rcases List.mem_cons.1 h with h | h
    ·exact .inr (List.mem_cons.2 (.inl h))
    ·rcases ih h with h | h
     ·exact .inl h
     ·exact .inr (List.mem_cons.2 (.inr h))
 rcases key _ h with h | h
 ·exact .inl h
 ·exact .inr (List.mem_filter.1 h).1
theorem puts_asc : ∀ (ks : List ByteArray) (l : List JV) (m : List (ByteArray × JV)),ks.length = l.length → ks.Pairwise (fun x y => bytesBefore y.data.toList x.data.toList = false ∧ x ≠ y) →
  (∀ k ∈ ks,∀ y ∈ m,bytesBefore k.data.toList y.1.data.toList = false ∧ y.1 ≠ k) → puts ks l m = m ++ ks.zip l
 | [],[],m,_,_,_ => by simp [puts]
 | [],_ :: _,_,h,_,_ => by simp at h
 | _ :: _,[],_,h,_,_ => by simp at h
 | k :: ks,j :: l,m,hl,hp,hm => by
  have hp' := List.pairwise_cons.1 hp;show puts ks l (putL k j m) = _;rw [putL_last k j m (hm k (List.mem_cons_self ..)),puts_asc ks l _ (by simpa using hl) hp'.2 ?_]
  ·simp
  ·intro x hx y hy;rcases List.mem_append.1 hy with hy | hy
   ·exact hm x (List.mem_cons_of_mem _ hx) y hy
   ·rw [List.mem_singleton.1 hy];exact hp'.1 x hx
theorem putL_len (k : ByteArray) (j : JV) (m : List (ByteArray × JV)) : (putL k j m).length ≤ m.length + 1 := by
 have key : ∀ l : List (ByteArray × JV),(insL (k,j) l).length = l.length + 1 := by
  intro l
  induction l with
  | nil => rfl
  | cons x r ih => unfold insL;split <;> simp_all
 unfold putL;rw [key];have := List.length_filter_le (fun p : ByteArray × JV => !(p.1.data.toList == k.data.toList)) m;omega
theorem spe_len {env : List (ByteArray × JV)} : ∀ {ks : List ByteArray} {l : List JV} {T : ByteArray},SpE env ks l T → ks.length = l.length
 | _,[],_,h => by simp only [SpE] at h;rw [h.1];rfl
 | _,j :: r,_,h => by
  simp only [SpE] at h;obtain ⟨k,ks',kb,Kt,q,nl,V,e,R,rfl,_,_,_,_,_,_,_,hr,_⟩ := h;simp [spe_len hr]
theorem endR_tm (e : Nat) (he : e < 7) : 0 < (endR e).size ∧ tmB (byteAt (endR e) 0) := by
 unfold tmB
 match e,he with
 | 0,_ | 1,_ | 2,_ | 3,_ | 4,_ | 5,_ | 6,_ => decide
theorem mkT_tm : ∀ mk : Nat,0 < (mkT mk).size ∧ tmB (byteAt (mkT mk) 0)
 | 0 | 1 | 2 => by unfold tmB;decide
 | _ + 3 => by unfold tmB;exact ⟨show 0 < 5 by decide,.inr (.inl rfl)⟩
theorem tlT_tm : ∀ t : Nat,0 < (tlT t).size ∧ tmB (byteAt (tlT t) 0)
 | 0 | 1 => by unfold tmB;decide
 | _ + 2 => by unfold tmB;exact ⟨show 0 < 1 by decide,.inl rfl⟩
theorem spl_first {env : List (ByteArray × JV)} {mk : Nat} : ∀ {l : List JV} {T : ByteArray},SpL env mk false l T → (l = [] ∧ T = ⟨#[]⟩) ∨ (0 < T.size ∧ tmB (byteAt T 0))
 | [],_,h => by simp only [SpL] at h;exact .inl ⟨rfl,h⟩
 | j :: r,_,h => by
  simp only [SpL] at h;obtain ⟨V,R,_,_,rfl⟩ := h;exact .inr (first_app (mkT_tm mk))
theorem Has.tm {s : ByteArray} {p : Nat} {A : ByteArray} (h : Has s p A) (ha : 0 < A.size ∧ tmB (byteAt A 0)) : p < s.size ∧ tmB (byteAt s p) := by
 have h1 := h.lt 0 ha.1;have h2 := h.at 0 ha.1;rw [Nat.add_zero] at h1 h2;exact ⟨h1,by rw [h2];exact ha.2⟩
section
variable {K : PK} {s : ByteArray} {p : Nat} {sk stk : List Nat} {cx cx1 fin : List CJ} {ks ks1 : List ByteArray} {pt n : Nat} {j : JV} {env : List (ByteArray × JV)} {T : ByteArray}
theorem fd_av3 (a : Nat) (h : Has s p (sp3 a)) (rest : Fd K s (p + (sp3 a).size) (p + (sp3 a).size) stk (plainT 180) cx ks pt fin) : Fd K s p p stk (plainT 180) cx ks pt fin := by
 match a with
 | 0 => exact rest
 | 1 =>
  have hle : p + 1 ≤ s.size := h.le;have b0 : byteAt s p = 32 := h.at 0 (by decide);exact Fd.lead ((ld_av_sp (by omega) (by rw [b0];rfl)).trans (ld_skip 180)) rest
 | a + 2 =>
  have hle : p + 1 ≤ s.size := h.le;have b0 : byteAt s p = 10 := h.at 0 (show 0 < 1 by decide);exact Fd.lead ((ld_av_sp (by omega) (by rw [b0];rfl)).trans (ld_skip 180)) rest
theorem Mode.sp3 {S E : Nat} (M : Mode K S E sk) (a : Nat) (h : Has s p (sp3 a)) (rest : Fd K s (p + (Go.Cf.sp3 a).size) (p + (Go.Cf.sp3 a).size) sk (plainT S) cx ks pt fin) : Fd K s p p sk (plainT S) cx ks pt fin := by
 match a with
 | 0 => exact rest
 | 1 =>
  have hle : p + 1 ≤ s.size := h.le;have b0 : byteAt s p = 32 := h.at 0 (by decide);exact M.fsp (by omega) (by rw [b0];rfl) rest
 | a + 2 =>
  have hle : p + 1 ≤ s.size := h.le;have b0 : byteAt s p = 10 := h.at 0 (show 0 < 1 by decide);exact M.fsp (by omega) (by rw [b0];rfl) rest
theorem fd_mark (mk : Nat) (h : Has s p (mkT mk)) (rest : Fd K s (p + (mkT mk).size) (p + (mkT mk).size) stk (plainT 180) cx ks pt fin) : Fd K s p p stk (plainT 190) cx ks pt fin := by
 match mk with
 | 0 =>
  have hle : p + 1 ≤ s.size := h.le;have b0 : byteAt s p = 44 := h.at 0 (by decide);exact Fd.lead ((ld_ae_comma (by omega) b0).trans (ld_skip 180)) rest
 | 1 =>
  have hle : p + 2 ≤ s.size := h.le;have b0 : byteAt s p = 44 := h.at 0 (by decide);have b1 : byteAt s (p + 1) = 32 := h.at 1 (by decide);exact Fd.lead (((ld_ae_comma (by omega) b0).trans (ld_skip 180)).trans ((ld_av_sp (by omega) (by rw [b1];rfl)).trans (ld_skip 180))) rest
 | 2 =>
  have hle : p + 1 ≤ s.size := h.le;have b0 : byteAt s p = 10 := h.at 0 (by decide);exact Fd.lead ((ld_ae_nl (by omega) b0).trans (ld_skip 180)) rest
 | mk + 3 =>
  have hle : p + 5 ≤ s.size := h.le;have b0 : byteAt s p = 32 := h.at 0 (show 0 < 5 by decide);have b1 : byteAt s (p + 1) = 44 := h.at 1 (show 1 < 5 by decide);have b2 : byteAt s (p + 1 + 1) = 10 := h.at 2 (show 2 < 5 by decide);have b3 : byteAt s (p + 1 + 1 + 1) = 32 := h.at 3 (show 3 < 5 by decide);have b4 : byteAt s (p + 1 + 1 + 1 + 1) = 32 := h.at 4 (show 4 < 5 by decide);refine Fd.lead (((ld_arrend_ws (by omega) (by rw [b0];rfl)).trans (ld_skip 190)).trans ((ld_ae_comma (by omega) b1).trans (ld_skip 180))) ?_;refine Fd.lead ((ld_av_sp (by omega) (by rw [b2];rfl)).trans (ld_skip 180)) ?_;refine Fd.lead ((ld_av_sp (by omega) (by rw [b3];rfl)).trans (ld_skip 180)) ?_;exact Fd.lead ((ld_av_sp (by omega) (by rw [b4];rfl)).trans (ld_skip 180)) rest
theorem fd_av_close (b : Nat) (h : Has s p (sp3 b ++ ⟨#[93]⟩)) (rest : ∀ st,st ≤ p + (sp3 b).size + 1 → Fd K s (p + (sp3 b).size + 1) st stk (plainT 189) cx ks pt fin) : Fd K s p p stk (plainT 180) cx ks pt fin := by
 have hr := h.right;have hle : p + (sp3 b).size + 1 ≤ s.size := hr.le;have b0 : byteAt s (p + (sp3 b).size) = 93 := hr.at 0 (by decide);exact fd_av3 b h.left (Fd.lead (ld_av_end (by omega) b0) (rest _ (by omega)))
theorem fd_ae_close (b : Nat) (h : Has s p (sp3 b ++ ⟨#[93]⟩)) (rest : ∀ st,st ≤ p + (sp3 b).size + 1 → Fd K s (p + (sp3 b).size + 1) st stk (plainT 189) cx ks pt fin) : Fd K s p p stk (plainT 190) cx ks pt fin := by
 have hl := h.left;have hr := h.right;have hle : p + (sp3 b).size + 1 ≤ s.size := hr.le;have b1 : byteAt s (p + (sp3 b).size) = 93 := hr.at 0 (by decide)
 match b,hle,hl,b1,rest with
 | 0,hle,hl,b1,rest =>
  have hle : p + 1 ≤ s.size := hle;exact Fd.lead (ld_ae_end (by omega) b1) (rest _ (by show p ≤ p + 0 + 1;omega))
 | 1,hle,hl,b1,rest =>
  have hle : p + 1 + 1 ≤ s.size := hle;have b0 : byteAt s p = 32 := hl.at 0 (by decide);exact Fd.lead ((ld_arrend_ws (by omega) (by rw [b0];rfl)).trans ((ld_skip 190).trans (ld_ae_end (by omega) b1))) (rest _ (by show p + 1 ≤ p + 1 + 1;omega))
 | b + 2,hle,hl,b1,rest =>
  have hle : p + 1 + 1 ≤ s.size := hle;have b0 : byteAt s p = 10 := hl.at 0 (show 0 < 1 by decide);exact Fd.lead ((ld_ae_nl (by omega) b0).trans ((ld_skip 180).trans (ld_av_end (by omega) b1))) (rest _ (by show p + 1 ≤ p + 1 + 1;omega))
theorem fd_tail (t b : Nat) (h : Has s p (tlT t ++ (sp3 b ++ ⟨#[93]⟩))) (rest : ∀ st,st ≤ p + (tlT t).size + (sp3 b).size + 1 → Fd K s (p + (tlT t).size + (sp3 b).size + 1) st stk (plainT 189) cx ks pt fin) : Fd K s p p stk (plainT 190) cx ks pt fin := by
 have hl := h.left;have hr := h.right
 match t,hl,hr,rest with
 | 0,hl,hr,rest =>
  have hle : p + 1 ≤ s.size := hl.le;have b0 : byteAt s p = 44 := hl.at 0 (by decide);exact Fd.lead ((ld_ae_comma (by omega) b0).trans (ld_skip 180)) (fd_av_close b hr rest)
 | 1,hl,hr,rest =>
  have hle : p + 1 ≤ s.size := hl.le;have b0 : byteAt s p = 32 := hl.at 0 (by decide);exact Fd.lead ((ld_arrend_ws (by omega) (by rw [b0];rfl)).trans (ld_skip 190)) (fd_ae_close b hr rest)
 | t + 2,hl,hr,rest =>
  have hle : p + 1 ≤ s.size := hl.le;have b0 : byteAt s p = 10 := hl.at 0 (show 0 < 1 by decide);exact Fd.lead ((ld_ae_nl (by omega) b0).trans (ld_skip 180)) (fd_av_close b hr rest)
theorem CJ.jv_zip {ks : List ByteArray} {l : List JV} (h : ks.length = l.length) : (CJ.map (ks.zip l)).jv = .map ks l := by
 show JV.map _ _ = _
 rw [List.map_fst_zip (by omega),List.map_snd_zip (by omega)]
end
mutual
theorem reads_v {K : PK} {s : ByteArray} {env : List (ByteArray × JV)} (hK : K.ped = false) (hss : s.size ≤ 700000) : ∀ (j : JV) {li nl : Bool} {T : ByteArray} {p n pt : Nat} {sk : List Nat} {cx cx1 fin : List CJ} {ks ks1 : List ByteArray},
  SpV env li j nl T → EnvOk env cx → Has s p T → p + T.size < s.size → tmB (byteAt s (p + T.size)) → (nl = true → byteAt s (p + T.size) = 10) → cx ≠ [] → cx.length ≤ p + 2 → sk.length ≤ p + 2 → ks.length ≤ p + 2 →
  (∀ L,(⟨L,cx,ks⟩ : PX).Sets j ⟨L,cx1,ks1⟩) → (∀ pt',pt' ≠ 3 → Fd K s (p + T.size) (p + T.size) sk (plainT n) cx1 ks1 pt' fin) → Fd K s p p (sk ++ [n]) (plainT 174) cx ks pt fin
 | .int v,li,nl,T,p,n,pt,sk,cx,cx1,fin,ks,ks1,h,he,hh,hlt,htm,hnl,hne,b1,b2,b3,hs,rest => by
  simp only [SpV] at h;rcases h.2 with h | h
  ·exact fd_int hK h hh hlt htm (by omega) hs rest
  ·exact fd_var hK h he (by omega) (by omega) hh hlt htm (by omega) hs rest
 | .num f,li,nl,T,p,n,pt,sk,cx,cx1,fin,ks,ks1,h,he,hh,hlt,htm,hnl,hne,b1,b2,b3,hs,rest => by
  simp only [SpV] at h;exact fd_flt hK h.2 hh hlt htm (by omega) hs rest
 | .tr b,li,nl,T,p,n,pt,sk,cx,cx1,fin,ks,ks1,h,he,hh,hlt,htm,hnl,hne,b1,b2,b3,hs,rest => by
  simp only [SpV] at h;obtain ⟨_,i,hi,rfl⟩ := h;exact fd_tr hK b i hi hh hlt htm (by omega) hs rest
 | .txt t,li,nl,T,p,n,pt,sk,cx,cx1,fin,ks,ks1,h,he,hh,hlt,htm,hnl,hne,b1,b2,b3,hs,rest => by
  simp only [SpV] at h;rcases h with h | h
  ·exact fd_txt hK h hh hlt htm hnl (by omega) hs rest
  ·exact fd_var hK h.2 he (by omega) (by omega) hh hlt htm (by omega) hs rest
 | .arr l,li,nl,T,p,n,pt,sk,cx,cx1,fin,ks,ks1,h,he,hh,hlt,htm,hnl,hne,b1,b2,b3,hs,rest => by
  simp only [SpV] at h;obtain ⟨_,a,mk,b,Es,R,hl,hR,rfl⟩ := h;obtain ⟨c2,cs,rfl⟩ : ∃ c2 cs,cx = c2 :: cs := by
   cases cx with
   | nil => exact absurd rfl hne
   | cons c2 cs => exact ⟨_,_,rfl⟩
  have h0 := hh.left;have h1 := hh.right;have z1 : (⟨#[91]⟩ : ByteArray).size = 1 := rfl;have z3 : (⟨#[93]⟩ : ByteArray).size = 1 := rfl;simp only [bsa,z1,z3] at rest hlt h1;have ha := h1.left;have h2 := h1.right;have hb := h2.left;have hc := h2.right;have e0 : byteAt s p = 91 := h0.at 0 (by decide);have fin1 : ∀ (l' : List JV) (q st pt' : Nat),l' = l → q = p + (1 + ((sp3 a).size + (Es.size + (R.size + ((sp3 b).size + 1))))) → st ≤ q → pt' ≠ 3 → Fd K s q st (sk ++ [n]) (plainT 189) (.arr l' :: c2 :: cs) ks pt' fin := by
   intro l' q st pt' hl' hq hst hpt;subst hl' hq;exact Fd.step (ld_le_go hst sk n rfl (by omega)) (by decide) (fun L x h1 _ _ => works_listend hK L x h1 (by simp at b1;omega) (hs L)) (rest 11 (by decide))
  refine Fd.step (ld_val_arr (by omega) (Nat.le_refl _) e0) (by decide) (fun L x h1 _ _ => works_list L x h1 (by omega) (by simp)) ?_;refine fd_av3 a ha ?_
  cases l with
  | nil =>
   simp only [SpL] at hl;subst hl;rcases hR with ⟨_,rfl⟩ | ⟨h,_⟩
   ·have hc2 := hc.right;refine fd_av_close b hc2 fun st hst => fin1 [] _ _ _ rfl ?_ hst (by decide)
    show p + 1 + (sp3 a).size + 0 + 0 + (sp3 b).size + 1 = p + (1 + ((sp3 a).size + (0 + (0 + ((sp3 b).size + 1)))))
    omega
   ·exact absurd rfl h
  | cons j r =>
   simp only [SpL,if_true,empty_app] at hl;obtain ⟨V,R1,hV,hr,rfl⟩ := hl;rcases hR with ⟨h,_⟩ | ⟨_,tl,rfl⟩
   ·cases h
   have hV1 := hb.left;have hR1 := hb.right;simp only [bsa] at hc fin1 hlt;rw [← Nat.add_assoc] at hc;have hf := spv_first hV;have hv := hf.2.vs;have ev := hV1.at 0 hf.1;rw [Nat.add_zero] at ev;have hvl := hV1.lt 0 hf.1;rw [Nat.add_zero] at hvl;have hct := hc.left.tm (tlT_tm tl);have htmV : p + 1 + (sp3 a).size + V.size < s.size ∧ tmB (byteAt s (p + 1 + (sp3 a).size + V.size)) := by
    rcases spl_first hr with ⟨_,rfl⟩ | h
    ·exact hct
    ·exact hR1.tm h
   refine Fd.lead (ld_arr_other hvl (by simp only [List.length_append,List.length_cons,List.length_nil];omega) (by rw [ev];exact hv.1.1) (by rw [ev];exact hv.2.2.2.1) (by rw [ev];exact hv.2.2.2.2.1) (by rw [ev];exact hv.2.1) (by rw [ev];exact hv.2.2.2.2.2)) ?_;refine reads_v hK hss j (cx := .arr [] :: c2 :: cs) (cx1 := .arr ([] ++ [j]) :: c2 :: cs) hV (he.arr _) hV1 htmV.1 htmV.2 (fun h => by cases h) (by simp) (by simp only [List.length_cons] at b1 ⊢;omega) (by simp only [List.length_append,List.length_cons,List.length_nil];omega) (by omega)
    (fun L => .arr [] (c2 :: cs) rfl (by simp only [List.length_cons] at b1 ⊢;omega) (by simp)) fun pt2 hpt2 => ?_
   refine reads_l hK hss r hr (he := he) hR1 hct.1 hct.2 (by simp) (by simp only [List.length_cons] at b1 ⊢;omega) (by simp only [List.length_append,List.length_cons,List.length_nil];omega) (by omega) (by simp) hpt2 fun pt3 hpt3 => ?_
   refine fd_tail tl b hc fun st hst => fin1 _ _ _ _ rfl ?_ hst hpt3
   omega
 | .map kl l,li,nl,T,p,n,pt,sk,cx,cx1,fin,ks,ks1,h,he,hh,hlt,htm,hnl,hne,b1,b2,b3,hs,rest => by
  simp only [SpV] at h;obtain ⟨_,a,Es,hE,hpw,hd,rfl⟩ := h;obtain ⟨c2,cs,rfl⟩ : ∃ c2 cs,cx = c2 :: cs := by
   cases cx with
   | nil => exact absurd rfl hne
   | cons c2 cs => exact ⟨_,_,rfl⟩
  have hlen := spe_len hE;have h0 := hh.left;have h1 := hh.right;have z1 : (⟨#[123]⟩ : ByteArray).size = 1 := rfl;have z3 : (⟨#[125]⟩ : ByteArray).size = 1 := rfl;simp only [bsa,z1,z3] at rest hlt h1;have ha := h1.left;have h2 := h1.right;have hb := h2.left;have hc := h2.right;have e0 : byteAt s p = 123 := h0.at 0 (by decide);have hcl := hc.lt 0 (by decide);rw [Nat.add_zero] at hcl;have hmj : (CJ.map (puts kl l [])).jv = .map kl l := by rw [puts_asc kl l [] hlen hpw (by simp),List.nil_append,CJ.jv_zip hlen]
  have e9 : byteAt s (p + 1 + (sp3 a).size + Es.size) = 125 := hc.at 0 (by decide);have M := mode_map hK (sk ++ [n]) (by simp only [List.length_append,List.length_cons,List.length_nil];omega);refine Fd.step (ld_val_map (by omega) (Nat.le_refl _) e0) (by decide) (fun L x h1 _ _ => works_map L x h1 (by omega) (by simp)) ?_;refine M.sp3 a ha ?_;refine reads_e hK hss l hE he hd hb hcl (by simp) (by simp only [List.length_cons] at b1 ⊢;omega) (by simp only [List.length_append,List.length_cons,List.length_nil];omega) (by omega) (by simp) (by simp) (by decide) fun pt2 hpt2 => ?_
  refine Fd.lead ((ld_mks_end hcl e9).trans (ld_skip 191)) ?_;refine Fd.step (cx1 := cx1) (ks1 := ks1) (ld_me_go (Nat.le_refl _) sk n rfl (by omega)) (by decide) (fun L x h1 _ _ => works_mapend hK L x h1 (by simp only [List.length_cons] at b1;omega) (by rw [hmj];exact hs L)) ?_
  ·have := rest 13 (by decide);rwa [show p + (1 + ((sp3 a).size + (Es.size + 1))) = p + 1 + (sp3 a).size + Es.size + 1 from by omega] at this
theorem reads_l {K : PK} {s : ByteArray} {env : List (ByteArray × JV)} (hK : K.ped = false) (hss : s.size ≤ 700000) : ∀ (l : List JV) {mk : Nat} {T : ByteArray} {p pt : Nat} {stk : List Nat} {l0 : List JV} {cx fin : List CJ} {ks : List ByteArray},
  SpL env mk false l T → (he : EnvOk env cx) → Has s p T → p + T.size < s.size → tmB (byteAt s (p + T.size)) → cx ≠ [] → cx.length ≤ p + 1 → stk.length ≤ p + 2 → ks.length ≤ p + 2 → l0.length ≤ p + 1 → pt ≠ 3 →
  (∀ pt',pt' ≠ 3 → Fd K s (p + T.size) (p + T.size) stk (plainT 190) (.arr (l0 ++ l) :: cx) ks pt' fin) → Fd K s p p stk (plainT 190) (.arr l0 :: cx) ks pt fin
 | [],mk,T,p,pt,stk,l0,cx,fin,ks,h,he,hh,hlt,htm,hne,b1,b2,b3,b4,hpt,rest => by
  simp only [SpL] at h;subst h;have := rest pt hpt;rw [List.append_nil] at this;exact this
 | j :: r,mk,T,p,pt,stk,l0,cx,fin,ks,h,he,hh,hlt,htm,hne,b1,b2,b3,b4,hpt,rest => by
  simp only [SpL,Bool.false_eq_true,if_false] at h;obtain ⟨V,R1,hV,hr,rfl⟩ := h;have hmk := mkT_tm mk;have h0 := hh.left;have hb1 := hh.right;have hV1 := hb1.left;have hR1 := hb1.right;simp only [bsa] at rest hlt htm;have hf := spv_first hV;have hv := hf.2.vs;have ev := hV1.at 0 hf.1;rw [Nat.add_zero] at ev;have hvl := hV1.lt 0 hf.1;rw [Nat.add_zero] at hvl;have htmV : p + (mkT mk).size + V.size < s.size ∧ tmB (byteAt s (p + (mkT mk).size + V.size)) := by
   rcases spl_first hr with ⟨_,rfl⟩ | h
   ·have zn : (⟨#[]⟩ : ByteArray).size = 0 := rfl;rw [zn,Nat.add_zero,← Nat.add_assoc] at hlt htm;exact ⟨hlt,htm⟩
   ·exact hR1.tm h
  refine fd_mark mk h0 ?_;refine Fd.lead (ld_arr_other hvl (by omega) (by rw [ev];exact hv.1.1) (by rw [ev];exact hv.2.2.2.1) (by rw [ev];exact hv.2.2.2.2.1) (by rw [ev];exact hv.2.1) (by rw [ev];exact hv.2.2.2.2.2)) ?_;refine reads_v hK hss j (cx := .arr l0 :: cx) (cx1 := .arr (l0 ++ [j]) :: cx) hV (he.arr _) hV1 htmV.1 htmV.2 (fun h => by cases h) (by simp) (by simp only [List.length_cons];omega) (by omega) (by omega)
   (fun L => .arr l0 cx rfl (by omega) (by omega)) fun pt2 hpt2 => ?_
  refine reads_l hK hss r hr (he := he) hR1 (by omega) (by rw [show p + (mkT mk).size + V.size + R1.size = p + ((mkT mk).size + (V.size + R1.size)) from by omega];exact htm) hne (by omega) (by omega) (by omega) (by simp only [List.length_append,List.length_cons,List.length_nil];omega) hpt2 fun pt3 hpt3 => ?_
  have := rest pt3 hpt3;rw [show p + ((mkT mk).size + (V.size + R1.size)) = p + (mkT mk).size + V.size + R1.size from by omega] at this;rw [List.append_assoc];exact this
theorem reads_e {K : PK} {s : ByteArray} {env : List (ByteArray × JV)} (hK : K.ped = false) (hss : s.size ≤ 700000) : ∀ (l : List JV) {kl : List ByteArray} {T : ByteArray} {p pt : Nat} {stk : List Nat} {m : List (ByteArray × JV)} {cx fin : List CJ} {ks : List ByteArray},
  SpE env kl l T → EnvOk env cx → (∀ k ∈ kl,∀ x ∈ env,x.1 ≠ k) → Has s p T → p + T.size < s.size → cx ≠ [] → cx.length ≤ p + 1 → stk.length ≤ p + 2 → ks.length ≤ p + 1 → m.length ≤ p + 1 → (∀ x ∈ env,∀ y ∈ m,x.1 ≠ y.1) → pt ≠ 3 →
  (∀ pt',pt' ≠ 3 → Fd K s (p + T.size) (p + T.size) stk (plainT 181) (.map (puts kl l m) :: cx) ks pt' fin) → Fd K s p p stk (plainT 181) (.map m :: cx) ks pt fin
 | [],kl,T,p,pt,stk,m,cx,fin,ks,h,he,hd,hh,hlt,hne,b1,b2,b3,b4,hm,hpt,rest => by
  simp only [SpE] at h;obtain ⟨rfl,rfl⟩ := h;exact rest pt hpt
 | j :: r,kl,T,p,pt,stk,m,cx,fin,ks,h,he,hd,hh,hlt,hne,b1,b2,b3,b4,hm,hpt,rest => by
  simp only [SpE] at h;obtain ⟨k,ks',kb,Kt,q,nl,V,e,R,rfl,hk,hkw,hks,hq,hV,hee,hnl,hr,rfl⟩ := h;have M := mode_map hK stk (by omega);have h0 := hh.left;have hb1 := hh.right;have hK1 := hb1.left;have hb2 := hb1.right;have hV1 := hb2.left;have hb3 := hb2.right;have hE1 := hb3.left;have hR1 := hb3.right;simp only [bsa] at rest hlt hV1 hE1 hR1;have hf := spv_first hV;have hv := hf.2.vs;have ev := hV1.at 0 hf.1;rw [Nat.add_zero] at ev;have hvl := hV1.lt 0 hf.1;rw [Nat.add_zero] at hvl;have het := hE1.tm (endR_tm e hee);have hz1 := (endR_tm e hee).1;refine M.blank kb h0 hpt fun pt1 hpt1 => ?_
  refine M.key s _ _ _ _ _ k Kt q hk hkw hq hK1 hvl (by rw [ev];exact hv.1) (by rw [ev];exact ⟨hv.2.1,hv.2.2.1⟩) (by omega) ?_
  refine reads_v hK hss j (cx := .map m :: cx) (cx1 := .map (putL k j m) :: cx) (ks1 := ks) hV (he.map _ hm) hV1 het.1 het.2 (fun h => by
    have := hE1.at 0 hz1;rw [Nat.add_zero] at this;rw [this,hnl h]
    rfl) (by simp) (by simp only [List.length_cons];omega) (by omega) (by simp only [List.length_append,List.length_cons,List.length_nil];omega)
   (fun L => .map m cx ks k rfl rfl (by omega) (by omega) (by omega)) fun pt2 hpt2 => ?_
  refine M.ends e hee hE1 hpt2 fun pt3 hpt3 => ?_
  refine reads_e hK hss r hr he (fun x hx => hd x (List.mem_cons_of_mem _ hx)) hR1 (by omega) hne (by omega) (by omega) (by omega) (by have := putL_len k j m;omega) (fun x hx y hy => ?_) hpt3 fun pt4 hpt4 => ?_
  ·rcases putL_mem hy with rfl | hy
   ·exact hd k (List.mem_cons_self ..) x hx
   ·exact hm x hx y hy
  ·have := rest pt4 hpt4;rw [show p + ((blankT kb).size + (Kt.size + (sepT q).size + (V.size + ((endR e).size + R.size)))) = p + (blankT kb).size + (Kt.size + (sepT q).size) + V.size + (endR e).size + R.size from by omega] at this;exact this
end
def dU : Ieee.Datum → Int
 | .number s m i => Ieee.signed s m (i + 1074).toNat
 | _ => 0
def dFin : Ieee.Datum → Prop
 | .number _ _ i => -1074 ≤ i
 | _ => False
theorem signed_eq (s : Bool) (m u : Nat) : Ieee.signed s m u = (if s then -1 else 1) * ((m : Int) * 2 ^ u) := by
 unfold Ieee.signed;rw [Nat.shiftLeft_eq]
 cases s <;> simp
theorem signed_scale (s : Bool) (m u v : Nat) : Ieee.signed s m (u + v) = Ieee.signed s m u * 2 ^ v := by
 rw [signed_eq,signed_eq,Int.pow_add,← Int.mul_assoc,← Int.mul_assoc,← Int.mul_assoc]
theorem pow2_pos (v : Nat) : (0 : Int) < 2 ^ v := Int.pow_pos (by decide)
theorem base_eq {s : Bool} {m : Nat} {i base : Int} (h1 : base ≤ i) (h2 : -1074 ≤ base) : Ieee.signed s m (i + 1074).toNat = Ieee.signed s m (i - base).toNat * 2 ^ (base + 1074).toNat := by
 rw [← signed_scale]
 congr 1
 omega
theorem order_cmp {d e : Ieee.Datum} (hd : dFin d) (he : dFin e) : d.order e = some (compare (dU d) (dU e)) := by
 cases d with
 | nan => exact hd.elim
 | infinity => exact hd.elim
 | number s m i =>
  cases e with
  | nan => exact he.elim
  | infinity => exact he.elim
  | number t n j =>
   have hi : -1074 ≤ i := hd;have hj : -1074 ≤ j := he;have h1 := base_eq (s := s) (m := m) (i := i) (base := min i j) (Int.min_le_left _ _) (by omega);have h2 := base_eq (s := t) (m := n) (i := j) (base := min i j) (Int.min_le_right _ _) (by omega);simp only [Ieee.Datum.order,dU,h1,h2,Option.some.injEq];have hp := pow2_pos (min i j + 1074).toNat;generalize Ieee.signed s m (i - min i j).toNat = x;generalize Ieee.signed t n (j - min i j).toNat = y;generalize (2 : Int) ^ (min i j + 1074).toNat = z at hp;simp only [compare,compareOfLessAndEq];have a1 : (x < y) ↔ (x * z < y * z) := by
    constructor
    ·intro h;exact Int.mul_lt_mul_of_pos_right h hp
    ·intro h;exact Int.lt_of_mul_lt_mul_right h (Int.le_of_lt hp)
   have a2 : (x = y) ↔ (x * z = y * z) := by
    constructor
    ·intro h;rw [h]
    ·intro h;exact Int.eq_of_mul_eq_mul_right (by omega) h
   by_cases c1 : x < y
   ·rw [if_pos c1,if_pos (a1.1 c1)]
   ·rw [if_neg c1,if_neg (fun h => c1 (a1.2 h))];by_cases c2 : x = y
    ·rw [if_pos c2,if_pos (a2.1 c2)]
    ·rw [if_neg c2,if_neg (fun h => c2 (a2.2 h))]
theorem order_lt {d e : Ieee.Datum} (hd : dFin d) (he : dFin e) (h : d.order e = some .lt) : dU d < dU e := by
 rw [order_cmp hd he] at h;simp only [Option.some.injEq,compare,compareOfLessAndEq] at h
 split at h
 ·assumption
 ·split at h <;> cases h
theorem order_gt {d e : Ieee.Datum} (hd : dFin d) (he : dFin e) (h : d.order e = some .gt) : dU e < dU d := by
 rw [order_cmp hd he] at h;simp only [Option.some.injEq,compare,compareOfLessAndEq] at h
 split at h
 ·cases h
 ·split at h
  ·cases h
  ·omega
theorem order_eq {d e : Ieee.Datum} (hd : dFin d) (he : dFin e) : d.order e = some .eq ↔ dU d = dU e := by
 rw [order_cmp hd he,Option.some.injEq,Int.compare_eq_eq]
theorem read_fin (b : Nat) : dFin (FloatKind.f64.format.read b) ∨ (∃ s,FloatKind.f64.format.read b = .infinity s) ∨ (∃ s t,FloatKind.f64.format.read b = .nan s t) := by
 unfold Ieee.Format.read
 dsimp only
 split
 ·exact .inl (by show (-1074 : Int) ≤ Ieee.double.leastPlace;decide)
 ·split
  ·refine .inl ?_;show (-1074 : Int) ≤ Ieee.double.leastPlace + _;have : Ieee.double.leastPlace = -1074 := by decide
   rw [this];omega
  ·split
   ·exact .inr (.inl ⟨_,rfl⟩)
   ·exact .inr (.inr ⟨_,_,rfl⟩)
theorem log2_mul_pow (q t : Nat) (hq : 0 < q) : (q * 2 ^ t).log2 = q.log2 + t := by
 have hq0 := Nat.pos_iff_ne_zero.1 hq;have h0 : q * 2 ^ t ≠ 0 := Nat.pos_iff_ne_zero.1 (Nat.mul_pos hq (Nat.two_pow_pos t));rw [Nat.log2_eq_iff h0];have h1 := Nat.log2_self_le hq0;have h2 : q < 2 ^ (q.log2 + 1) := Nat.lt_log2_self;refine ⟨?_,?_⟩
 ·rw [Nat.pow_add];exact Nat.mul_le_mul_right _ h1
 ·rw [show q.log2 + t + 1 = q.log2 + 1 + t from by omega,Nat.pow_add];exact Nat.mul_lt_mul_of_pos_right h2 (Nat.two_pow_pos t)
theorem read_rung (neg : Bool) (E kept : Nat) (hE : E ≤ 2045) (hk : kept < 2 ^ 53) (h0 : E = 0 ∨ 2 ^ 52 ≤ kept) : Ieee.double.read (Ieee.double.word neg (E * 2 ^ 52 + kept)) = .number neg kept (-1074 + (E : Int)) := by
 have hr : E * 2 ^ 52 + kept < 2047 * 2 ^ 52 := by omega
 have hsw : Ieee.double.signWeight = 2 ^ 63 := by decide
 have hbi : Ieee.double.binade = 2 ^ 52 := by decide
 have hin : Ieee.double.infRung = 2047 * 2 ^ 52 := by decide
 have hlp : Ieee.double.leastPlace = -1074 := by decide
 unfold Ieee.Format.read;rw [hsw,hbi,hin,hlp];have hd : Ieee.double.word neg (E * 2 ^ 52 + kept) / 2 ^ 63 % 2 = (if neg then 1 else 0) ∧ Ieee.double.word neg (E * 2 ^ 52 + kept) % 2 ^ 63 = E * 2 ^ 52 + kept := by
  unfold Ieee.Format.word;rw [hsw];cases neg
  ·simp only [Bool.false_eq_true,if_false];omega
  ·simp only [if_true];omega
 simp only [hd.1,hd.2];have hn : ((if neg = true then 1 else 0) == 1) = neg := by cases neg <;> rfl
 rw [hn];rcases Nat.lt_or_ge (E * 2 ^ 52 + kept) (2 ^ 52) with h | h
 ·rw [if_pos h];have hE0 : E = 0 := by omega
  subst hE0;simp
 ·rw [if_neg (by omega),if_pos hr];rcases Nat.eq_zero_or_pos E with hE0 | hE0
  ·subst hE0;have e1 : (0 * 2 ^ 52 + kept) % 2 ^ 52 = kept - 2 ^ 52 := by omega
   have e2 : (0 * 2 ^ 52 + kept) / 2 ^ 52 = 1 := by omega
   rw [e1,e2,show 2 ^ 52 + (kept - 2 ^ 52) = kept from by omega]
  ·have hk2 : 2 ^ 52 ≤ kept := by omega
   have e1 : (E * 2 ^ 52 + kept) % 2 ^ 52 = kept - 2 ^ 52 := by omega
   have e2 : (E * 2 ^ 52 + kept) / 2 ^ 52 = E + 1 := by omega
   rw [e1,e2,show 2 ^ 52 + (kept - 2 ^ 52) = kept from by omega,show E + 1 - 1 = E from by omega]
theorem nearest_exact (neg : Bool) (q t : Nat) (place : Int) (hq : 0 < q) (hq2 : q < 2 ^ 53) (hp : -1074 ≤ place + t) :
  (place + t + q.log2 ≤ 1023 ∧ ∃ (E kept : Nat),Ieee.double.read (Ieee.double.nearest neg (q * 2 ^ t) place) = .number neg kept (-1074 + (E : Int)) ∧ kept * 2 ^ E = q * 2 ^ (place + t + 1074).toNat) ∨
  (Ieee.double.read (Ieee.double.nearest neg (q * 2 ^ t) place) = .infinity neg ∧ 1024 ≤ place + t + q.log2) := by
 have hbi : Ieee.double.binade = 2 ^ 52 := by decide
 have hin : Ieee.double.infRung = 2047 * 2 ^ 52 := by decide
 have hlp : Ieee.double.leastPlace = -1074 := by decide
 have hfb : Ieee.double.fractionBits = 52 := rfl;have hql : q.log2 ≤ 52 := by
  have := (Nat.log2_lt (Nat.pos_iff_ne_zero.1 hq)).2 hq2;omega
 have hqlo : 2 ^ q.log2 ≤ q := Nat.log2_self_le (Nat.pos_iff_ne_zero.1 hq);have hqhi : q < 2 ^ (q.log2 + 1) := Nat.lt_log2_self;have hm0 : q * 2 ^ t ≠ 0 := Nat.pos_iff_ne_zero.1 (Nat.mul_pos hq (Nat.two_pow_pos t));obtain ⟨last,hlast⟩ : ∃ last : Int,last = max (place + (q * 2 ^ t).log2 - 52) (-1074) := ⟨_,rfl⟩;have hl2 : last = max (place + (q.log2 + t : Nat) - 52) (-1074) := by rw [hlast,log2_mul_pow q t hq]
 -- what is kept
 obtain ⟨kept,hkd,hkv⟩ : ∃ kept : Nat,Ieee.Toward.even.cut neg ((q * 2 ^ t) <<< (place - last).toNat) (last - place).toNat = kept ∧ ∃ v : Nat,(v : Int) = t + place - last ∧ kept = q * 2 ^ v := by
  refine ⟨_,rfl,(t + place - last).toNat,by omega,?_⟩;rcases Int.le_total place last with h | h
  ·have e1 : (place - last).toNat = 0 := by omega
   rw [e1,Nat.shiftLeft_zero];obtain ⟨a,ha⟩ : ∃ a : Nat,(last - place).toNat = a := ⟨_,rfl⟩;have hat : a ≤ t := by omega
   have hv : (t + place - last).toNat = t - a := by omega
   rw [ha,hv];unfold Ieee.Toward.cut;have hmin : min a ((q * 2 ^ t).log2 + 2) = a := by rw [log2_mul_pow q t hq];omega
   simp only [hmin,Nat.one_shiftLeft];have hdiv : q * 2 ^ t = (q * 2 ^ (t - a)) * 2 ^ a := by rw [Nat.mul_assoc,← Nat.pow_add];congr 2;omega
   have h1 : q * 2 ^ t / 2 ^ a = q * 2 ^ (t - a) := by rw [hdiv];exact Nat.mul_div_cancel _ (Nat.two_pow_pos a)
   have h2 : q * 2 ^ t % 2 ^ a = 0 := by rw [hdiv];exact Nat.mul_mod_left _ _
   have hpa := Nat.two_pow_pos a;have e2 : decide (2 ^ a < 2 * 0) = false := decide_eq_false (by omega);have e3 : (2 ^ a == 2 * 0) = false := bqf (by omega);simp [h1,h2]
  ·have e1 : (last - place).toNat = 0 := by omega
   rw [e1];have hv : (t + place - last).toNat = t + (place - last).toNat := by omega
   rw [hv];unfold Ieee.Toward.cut;simp [Nat.shiftLeft_eq,Nat.pow_add,Nat.mul_assoc,Nat.mod_one]
 obtain ⟨v,hv,hkq⟩ := hkv;have hpv := Nat.two_pow_pos v;have hk53 : kept < 2 ^ 53 := by
  rw [hkq];have : q.log2 + 1 + v ≤ 53 := by omega
  calc q * 2 ^ v < 2 ^ (q.log2 + 1) * 2 ^ v := Nat.mul_lt_mul_of_pos_right hqhi hpv
   _ = 2 ^ (q.log2 + 1 + v) := (Nat.pow_add 2 _ _).symm
   _ ≤ 2 ^ 53 := Nat.pow_le_pow_right (by decide) this
 obtain ⟨E,hE⟩ : ∃ E : Nat,(last - -1074).toNat = E := ⟨_,rfl⟩;have hk52 : E = 0 ∨ 2 ^ 52 ≤ kept := by
  rcases Nat.eq_zero_or_pos E with h | h
  ·exact .inl h
  ·refine .inr ?_;rw [hkq];have : 52 ≤ q.log2 + v := by omega
   calc 2 ^ 52 ≤ 2 ^ (q.log2 + v) := Nat.pow_le_pow_right (by decide) this
    _ = 2 ^ q.log2 * 2 ^ v := Nat.pow_add 2 _ _
    _ ≤ q * 2 ^ v := Nat.mul_le_mul_right _ hqlo
 have hnear : Ieee.double.nearest neg (q * 2 ^ t) place = Ieee.double.word neg (min (E * 2 ^ 52 + kept) (2047 * 2 ^ 52)) := by
  unfold Ieee.Format.nearest;rw [if_neg hm0,hlp,hfb,hbi,hin];simp only [];rw [show (max (place + ((q * 2 ^ t).log2 : Nat) - (52 : Nat)) (-1074) : Int) = last from by rw [hlast];rfl,hkd,hE]
 rw [hnear];by_cases ho : E ≤ 2045
 ·refine .inl ⟨by omega,E,kept,?_,?_⟩
  ·rw [Nat.min_eq_left (by omega)];exact read_rung neg E kept ho hk53 hk52
  ·rw [hkq,Nat.mul_assoc,← Nat.pow_add]
   congr 2
   omega
 ·refine .inr ⟨?_,by omega⟩;rw [Nat.min_eq_right (by omega)]
  cases neg <;> decide
def nlT (T : ByteArray) : Nat := nlc T T.size
def VarK (env : List (ByteArray × JV)) (k : ByteArray) (j : JV) (T : ByteArray) : Prop := (k,j) ∈ env ∧ Bare k ∧ T = ⟨#[36]⟩ ++ k
def frT : Nat → ByteArray
 | 0 => ⟨#[48,48,48]⟩
 | 1 => ⟨#[49,50,53]⟩
 | 2 => ⟨#[50,53,48]⟩
 | 3 => ⟨#[51,55,53]⟩
 | 4 => ⟨#[53,48,48]⟩
 | 5 => ⟨#[54,50,53]⟩
 | 6 => ⟨#[55,53,48]⟩
 | _ => ⟨#[56,55,53]⟩
def eiT (n : Int) : ByteArray := fltT (if n < 0 then ⟨#[45]⟩ else ⟨#[]⟩) (n.natAbs / 8) (frT (n.natAbs % 8))
def NumT (f : Nat) (T : ByteArray) : Prop := ∃ n : Int,-1000000000 < n ∧ n < 1000000000 ∧ dFin (FloatKind.f64.format.read f) ∧ dU (FloatKind.f64.format.read f) = n * 2 ^ 1071 ∧ T = eiT n
abbrev Pls := List (ByteArray × Nat)
def sla (path k : ByteArray) : ByteArray := path ++ ⟨#[47]⟩ ++ k
mutual
def GV (env : List (ByteArray × JV)) (li : Bool) (path : ByteArray) (ln : Nat) : JV → Bool → ByteArray → List ByteArray → Pls → Prop
 | .int v,nl,T,U,P => nl = false ∧ P = [] ∧ ((U = [] ∧ IntSp v T) ∨ ∃ k,U = [k] ∧ VarK env k (.int v) T)
 | .num f,nl,T,U,P => nl = false ∧ P = [] ∧ U = [] ∧ NumT f T
 | .tr b,nl,T,U,P => nl = false ∧ P = [] ∧ U = [] ∧ ∃ i,i < 6 ∧ T = trT b i
 | .txt t,nl,T,U,P => P = [] ∧ ((U = [] ∧ TxtS t li nl T) ∨ (nl = false ∧ ∃ k,U = [k] ∧ VarK env k (.txt t) T))
 | .arr l,nl,T,U,P => nl = false ∧ P = [] ∧ ∃ a mk b Es R,GL env mk true l Es U ∧ ((l = [] ∧ R = ⟨#[]⟩) ∨ (l ≠ [] ∧ ∃ tl,R = tlT tl)) ∧ T = ⟨#[91]⟩ ++ (sp3 a ++ (Es ++ (R ++ (sp3 b ++ ⟨#[93]⟩))))
 | .map ks l,nl,T,U,P => nl = false ∧ ∃ a Es,GE false env path (ln + nlT (sp3 a)) ks l Es U P env ∧ ks.Pairwise (fun x y => bytesBefore y.data.toList x.data.toList = false ∧ x ≠ y) ∧ T = ⟨#[123]⟩ ++ (sp3 a ++ (Es ++ ⟨#[125]⟩))
def GL (env : List (ByteArray × JV)) (mk : Nat) : Bool → List JV → ByteArray → List ByteArray → Prop
 | _,[],T,U => T = ⟨#[]⟩ ∧ U = []
 | first,j :: r,T,U => ∃ V R U1 U2 path ln P,GV env true path ln j false V U1 P ∧ GL env mk false r R U2 ∧ U = U1 ++ U2 ∧ T = (if first then ⟨#[]⟩ else mkT mk) ++ (V ++ R)
def GE (top : Bool) (env : List (ByteArray × JV)) (path : ByteArray) (ln : Nat) : List ByteArray → List JV → ByteArray → List ByteArray → Pls → List (ByteArray × JV) → Prop
 | ks,[],T,U,P,envF => ks = [] ∧ T = ⟨#[]⟩ ∧ U = [] ∧ P = [] ∧ envF = env
 | ks,j :: r,T,U,P,envF => ∃ env' k ks' kb Kt q nl V e R U1 U2 P1 P2,ks = k :: ks' ∧ KeySp k Kt ∧ noKw k ∧ k.size ≤ 1000000 ∧ q < 6 ∧ GV env false (sla path k) (ln + nlT (blankT kb ++ (Kt ++ sepT q))) j nl V U1 P1 ∧ e < 7 ∧ (nl = true → e = 3) ∧
   (∀ x ∈ env,x.1 ≠ k) ∧ (top = false → env' = env) ∧ (∀ x ∈ env',x ∈ env ∨ x = (k,j)) ∧ GE top env' path (ln + nlT (blankT kb ++ ((Kt ++ sepT q) ++ (V ++ endR e)))) ks' r R U2 P2 envF ∧
   U = U1 ++ U2 ∧ P = (sla path k,ln + 1 + nlT (blankT kb)) :: (P1 ++ P2) ∧ T = blankT kb ++ ((Kt ++ sepT q) ++ (V ++ (endR e ++ R)))
end
theorem nlT_app (a b : ByteArray) : nlT (a ++ b) = nlT a + nlT b := nlc_app a b
theorem nlT_nil : nlT ⟨#[]⟩ = 0 := rfl
theorem GE.snoc {top : Bool} {path : ByteArray} {k : ByteArray} {j : JV} {kb q e : Nat} {Kt V : ByteArray} {nl : Bool} {U1 : List ByteArray} {P1 : Pls} {env' envF : List (ByteArray × JV)} (hk : KeySp k Kt) (hkw : noKw k) (hks : k.size ≤ 1000000) (hq : q < 6) (he : e < 7) (hnl : nl = true → e = 3)
  (hd : ∀ x ∈ envF,x.1 ≠ k) (ht : top = false → env' = envF) (hm : ∀ x ∈ env',x ∈ envF ∨ x = (k,j)) :
  ∀ (l : List JV) {ks : List ByteArray} {env : List (ByteArray × JV)} {ln : Nat} {T : ByteArray} {U : List ByteArray} {P : Pls},GE top env path ln ks l T U P envF →
   GV envF false (sla path k) (ln + nlT T + nlT (blankT kb ++ (Kt ++ sepT q))) j nl V U1 P1 →
   GE top env path ln (ks ++ [k]) (l ++ [j]) (T ++ (blankT kb ++ ((Kt ++ sepT q) ++ (V ++ endR e)))) (U ++ U1) (P ++ ((sla path k,ln + nlT T + 1 + nlT (blankT kb)) :: P1)) env'
 | [],ks,env,ln,T,U,P,h,hV => by
  simp only [GE] at h;obtain ⟨rfl,rfl,rfl,rfl,rfl⟩ := h;rw [nlT_nil,Nat.add_zero] at *;simp only [List.nil_append,GE];refine ⟨env',k,[],kb,Kt,q,nl,V,e,⟨#[]⟩,U1,[],P1,[],rfl,hk,hkw,hks,hq,hV,he,hnl,hd,ht,hm,⟨rfl,rfl,rfl,rfl,rfl⟩,by simp,by simp,?_⟩;rw [empty_app];simp only [show endR e ++ (⟨#[]⟩ : ByteArray) = endR e from ByteArray.append_empty]
 | j0 :: r,ks,env,ln,T,U,P,h,hV => by
  simp only [GE] at h;obtain ⟨env1,k0,ks',kb0,Kt0,q0,nl0,V0,e0,R,Ua,Ub,Pa,Pb,rfl,a1,a2,a3,a4,a5,a6,a7,a8,a9,a10,hr,rfl,rfl,rfl⟩ := h;have hn : nlT (blankT kb0 ++ ((Kt0 ++ sepT q0) ++ (V0 ++ (endR e0 ++ R)))) = nlT (blankT kb0 ++ ((Kt0 ++ sepT q0) ++ (V0 ++ endR e0))) + nlT R := by
   simp only [nlT_app];omega
  rw [hn] at hV ⊢;rw [← Nat.add_assoc] at hV;have ih := GE.snoc hk hkw hks hq he hnl hd ht hm r hr hV;simp only [List.cons_append,GE];refine ⟨env1,k0,ks' ++ [k],kb0,Kt0,q0,nl0,V0,e0,_,Ua,Ub ++ U1,Pa,_,rfl,a1,a2,a3,a4,a5,a6,a7,a8,a9,a10,ih,by simp [List.append_assoc],?_,?_⟩
  ·simp only [List.append_assoc,Nat.add_assoc]
  ·simp only [ByteArray.append_assoc]
theorem GL.snoc {env : List (ByteArray × JV)} {mk : Nat} {j : JV} {V : ByteArray} {U1 : List ByteArray} {path : ByteArray} {ln : Nat} {P : Pls} (hV : GV env true path ln j false V U1 P) :
  ∀ (l : List JV) {first : Bool} {T : ByteArray} {U : List ByteArray},GL env mk first l T U → GL env mk first (l ++ [j]) (T ++ ((if first && l.isEmpty then ⟨#[]⟩ else mkT mk) ++ V)) (U ++ U1)
 | [],first,T,U,h => by
  simp only [GL] at h;obtain ⟨rfl,rfl⟩ := h;simp only [List.nil_append,GL];refine ⟨V,⟨#[]⟩,U1,[],path,ln,P,hV,⟨rfl,rfl⟩,by simp,?_⟩;rw [empty_app];simp;exact ByteArray.append_empty.symm
 | j0 :: r,first,T,U,h => by
  simp only [GL] at h;obtain ⟨V0,R,Ua,Ub,p0,l0,P0,h0,hr,rfl,rfl⟩ := h;have ih := GL.snoc hV r hr;simp only [List.cons_append,GL];refine ⟨V0,_,Ua,Ub ++ U1,p0,l0,P0,h0,ih,by simp,?_⟩;simp only [Bool.false_and,List.isEmpty_cons,Bool.and_false,Bool.false_eq_true,if_false,ByteArray.append_assoc]
mutual
theorem GV.move {env : List (ByteArray × JV)} {li : Bool} (path' : ByteArray) (ln' : Nat) : ∀ (j : JV) {path : ByteArray} {ln : Nat} {nl : Bool} {T : ByteArray} {U : List ByteArray} {P : Pls},GV env li path ln j nl T U P → ∃ P',GV env li path' ln' j nl T U P'
 | .int v,_,_,_,_,_,_,h => by simp only [GV] at h ⊢;exact ⟨_,h⟩
 | .num v,_,_,_,_,_,_,h => by simp only [GV] at h ⊢;exact ⟨_,h⟩
 | .tr v,_,_,_,_,_,_,h => by simp only [GV] at h ⊢;exact ⟨_,h⟩
 | .txt v,_,_,_,_,_,_,h => by simp only [GV] at h ⊢;exact ⟨_,h⟩
 | .arr l,_,_,_,_,_,_,h => by simp only [GV] at h ⊢;exact ⟨_,h⟩
 | .map ks l,_,_,_,_,_,_,h => by
  simp only [GV] at h ⊢;obtain ⟨h1,a,Es,hE,hp,rfl⟩ := h;obtain ⟨P',hE'⟩ := GE.move path' (ln' + nlT (sp3 a)) l hE;exact ⟨P',h1,a,Es,hE',hp,rfl⟩
theorem GE.move {top : Bool} (path' : ByteArray) (ln' : Nat) : ∀ (l : List JV) {env envF : List (ByteArray × JV)} {path : ByteArray} {ln : Nat} {ks : List ByteArray} {T : ByteArray} {U : List ByteArray} {P : Pls},GE top env path ln ks l T U P envF → ∃ P',GE top env path' ln' ks l T U P' envF
 | [],_,_,_,_,_,_,_,_,h => by simp only [GE] at h ⊢;obtain ⟨h1,h2,h3,h4,h5⟩ := h;exact ⟨[],h1,h2,h3,rfl,h5⟩
 | j :: r,_,_,_,_,_,_,_,_,h => by
  simp only [GE] at h ⊢;obtain ⟨env1,k0,ks',kb0,Kt0,q0,nl0,V0,e0,R,Ua,Ub,Pa,Pb,h1,a1,a2,a3,a4,a5,a6,a7,a8,a9,a10,hr,hU,hP,hT⟩ := h;obtain ⟨Pa',ha⟩ := GV.move (sla path' k0) (ln' + nlT (blankT kb0 ++ (Kt0 ++ sepT q0))) j a5;obtain ⟨Pb',hb⟩ := GE.move path' (ln' + nlT (blankT kb0 ++ ((Kt0 ++ sepT q0) ++ (V0 ++ endR e0)))) r hr;exact ⟨_,env1,k0,ks',kb0,Kt0,q0,nl0,V0,e0,R,Ua,Ub,Pa',Pb',h1,a1,a2,a3,a4,ha,a6,a7,a8,a9,a10,hb,hU,rfl,hT⟩
end
def Asc (s : ByteArray) : Prop := ∀ i,i < s.size → byteAt s i < 128
theorem Asc.app {a b : ByteArray} (ha : Asc a) (hb : Asc b) : Asc (a ++ b) := fun i hi => by
 rw [bsa] at hi;rcases Nat.lt_or_ge i a.size with h | h
 ·rw [byteAt_app_left _ _ _ h];exact ha i h
 ·obtain ⟨j,rfl⟩ := Nat.exists_eq_add_of_le h;rw [byteAt_app_right];exact hb j (by omega)
theorem Asc.plain {s nn : ByteArray} (h : Plain s nn) : Asc s := fun i hi => by have := h i hi;omega
theorem Asc.bare {s : ByteArray} (h : Bare s) : Asc s := fun i hi => by
 have := h.bytes i hi;unfold bareB letB goodB at this;omega
theorem Asc.one (c : UInt8) (h : c.toNat < 128) : Asc ⟨#[c]⟩ := fun i hi => by
 have : i = 0 := by have : i < 1 := hi;omega
 subst this;exact h
theorem Asc.blank (k : Nat) : Asc (blankT k) := by
 match k with
 | 0 => exact fun i hi => absurd hi (Nat.not_lt_zero i)
 | 1 => exact fun i hi => (show ∀ i,i < 2 → byteAt (blankT 1) i < 128 by decide) i hi
 | 2 => exact fun i hi => (show ∀ i,i < 16 → byteAt (blankT 2) i < 128 by decide) i hi
 | 3 => exact fun i hi => (show ∀ i,i < 12 → byteAt (blankT 3) i < 128 by decide) i hi
 | 4 => exact fun i hi => (show ∀ i,i < 1 → byteAt (blankT 4) i < 128 by decide) i hi
 | k + 5 => exact fun i hi => absurd hi (Nat.not_lt_zero i)
theorem Asc.sep (j : Nat) (hj : j < 6) : Asc (sepT j) := by
 match j,hj with
 | 0,_ => exact fun i hi => (show ∀ i,i < 3 → byteAt (sepT 0) i < 128 by decide) i hi
 | 1,_ => exact fun i hi => (show ∀ i,i < 1 → byteAt (sepT 1) i < 128 by decide) i hi
 | 2,_ => exact fun i hi => (show ∀ i,i < 2 → byteAt (sepT 2) i < 128 by decide) i hi
 | 3,_ => exact fun i hi => (show ∀ i,i < 1 → byteAt (sepT 3) i < 128 by decide) i hi
 | 4,_ => exact fun i hi => (show ∀ i,i < 1 → byteAt (sepT 4) i < 128 by decide) i hi
 | 5,_ => exact fun i hi => (show ∀ i,i < 3 → byteAt (sepT 5) i < 128 by decide) i hi
theorem Asc.end (e : Nat) (he : e < 5) : Asc (endT e) := by
 match e,he with
 | 0,_ => exact fun i hi => (show ∀ i,i < 1 → byteAt (endT 0) i < 128 by decide) i hi
 | 1,_ => exact fun i hi => (show ∀ i,i < 2 → byteAt (endT 1) i < 128 by decide) i hi
 | 2,_ => exact fun i hi => (show ∀ i,i < 7 → byteAt (endT 2) i < 128 by decide) i hi
 | 3,_ => exact fun i hi => (show ∀ i,i < 2 → byteAt (endT 3) i < 128 by decide) i hi
 | 4,_ => exact fun i hi => (show ∀ i,i < 8 → byteAt (endT 4) i < 128 by decide) i hi
theorem Asc.key {k Kt : ByteArray} (h : KeySp k Kt) : Asc Kt := by
 cases h with
 | dq hP => exact ((Asc.one 34 (by decide)).app (Asc.plain hP)).app (Asc.one 34 (by decide))
 | sq hP => exact ((Asc.one 39 (by decide)).app (Asc.plain hP)).app (Asc.one 39 (by decide))
 | bare hB => exact Asc.bare hB
theorem Asc.of_list (l : List UInt8) (h : ∀ c ∈ l,c.toNat < 128) : Asc ⟨l.toArray⟩ := fun i hi => by
 have hl : i < l.length := hi;have : byteAt ⟨l.toArray⟩ i = (l[i]'hl).toNat := by
  show (l.getD i 0).toNat = _
  rw [List.getD_eq_getElem?_getD,List.getElem?_eq_getElem hl];rfl
 rw [this];exact h _ (List.getElem_mem hl)
theorem Asc.esc {t : ByteArray} (h : ∀ i,i < t.size → escOk (byteAt t i)) : Asc (escT t) := by
 refine Asc.of_list _ fun c hc => ?_
 obtain ⟨x,hx,hcx⟩ := List.mem_flatMap.1 hc;obtain ⟨i,hi,rfl⟩ := List.getElem_of_mem hx;have hi2 : i < t.size := by rw [data_length] at hi;exact hi
 have hok := h i hi2;rw [← byteAt_get t i hi2] at hok;have hxl : (t.data.toList[i]'hi).toNat < 128 := by unfold escOk at hok;have : (t.data.toList[i]'hi).toNat = (t[i]'hi2).toNat := rfl;omega
 unfold escC at hcx
 split at hcx
 ·simp only [List.mem_cons,List.not_mem_nil,or_false] at hcx;rcases hcx with rfl | rfl <;> decide
 ·split at hcx
  ·simp only [List.mem_cons,List.not_mem_nil,or_false] at hcx;rcases hcx with rfl | rfl <;> decide
  ·split at hcx
   ·simp only [List.mem_cons,List.not_mem_nil,or_false] at hcx;rcases hcx with rfl | rfl
    ·decide
    ·exact hxl
   ·simp only [List.mem_cons,List.not_mem_nil,or_false] at hcx;subst hcx;exact hxl
theorem Asc.int {v : Int} {T : ByteArray} (h : IntSp v T) : Asc T := by
 obtain ⟨sg,m,sf,u,rfl,hsf,hn,hb⟩ := h;have hsg : sg = ⟨#[]⟩ ∨ sg = ⟨#[45]⟩ := by rcases hn with ⟨h,_⟩ | ⟨h,_⟩;exact .inl h;exact .inr h
 refine Asc.app (fun i hi => ?_) ?_
 ·have := sgdig sg m hsg i hi;omega
 ·rcases hsf.item with ⟨rfl,_⟩ | hI
  ·exact fun i hi => absurd hi (Nat.not_lt_zero i)
  ·exact hI.asc
noncomputable def canonF (f : Nat) : Nat := Classical.epsilon fun g => FloatKind.f64.format.order g f = some .eq ∧ ∀ T,NumT f T → FltGives g T
def HasF : Prop := ∀ f T,NumT f T → ∃ g,FloatKind.f64.format.order g f = some .eq ∧ FltGives g T
theorem NumT.uniq {f : Nat} {T T' : ByteArray} (h : NumT f T) (h' : NumT f T') : T = T' := by
 obtain ⟨n,_,_,_,h1,rfl⟩ := h;obtain ⟨n',_,_,_,h2,rfl⟩ := h';have : n = n' := by
  rw [h1] at h2;exact Int.eq_of_mul_eq_mul_right (by have := pow2_pos 1071;omega) h2
 rw [this]
theorem canonF_ok (hF : HasF) {f : Nat} {T : ByteArray} (h : NumT f T) : FloatKind.f64.format.order (canonF f) f = some .eq ∧ FltGives (canonF f) T := by
 obtain ⟨g,h1,h2⟩ := hF f T h;have := Classical.epsilon_spec (p := fun g => FloatKind.f64.format.order g f = some .eq ∧ ∀ T,NumT f T → FltGives g T) ⟨g,h1,fun T' h' => by rw [← h.uniq h'];exact h2⟩;exact ⟨this.1,this.2 T h⟩
mutual
noncomputable def JV.canon : JV → JV
 | .num f => .num (canonF f)
 | .arr l => .arr (canonL l)
 | .map ks l => .map ks (canonL l)
 | .int n => .int n
 | .tr b => .tr b
 | .txt t => .txt t
noncomputable def canonL : List JV → List JV
 | [] => []
 | j :: r => j.canon :: canonL r
end
theorem canonL_len : ∀ l : List JV,(canonL l).length = l.length
 | [] => by simp [canonL]
 | _ :: r => by simp [canonL,canonL_len r]
theorem canonL_nil {l : List JV} : canonL l = [] ↔ l = [] := by cases l <;> simp [canonL]
noncomputable def cE (env : List (ByteArray × JV)) : List (ByteArray × JV) := env.map fun x => (x.1,x.2.canon)
theorem VarK.sp {env : List (ByteArray × JV)} {k : ByteArray} {j : JV} {T : ByteArray} (h : VarK env k j T) : VarSp (cE env) j.canon T := by
 obtain ⟨h1,h2,rfl⟩ := h;exact ⟨k,List.mem_map.2 ⟨_,h1,rfl⟩,h2,rfl⟩
theorem eiT_sp {n : Int} (h0 : -1000000000 < n) (h1 : n < 1000000000) : ∃ (sg : ByteArray) (m : Nat) (F : ByteArray),(sg = ⟨#[]⟩ ∨ sg = ⟨#[45]⟩) ∧ m ≤ 1000000000 ∧ F.size = 3 ∧ (∀ i,i < F.size → 48 ≤ byteAt F i ∧ byteAt F i ≤ 57) ∧ eiT n = fltT sg m F := by
 refine ⟨if n < 0 then ⟨#[45]⟩ else ⟨#[]⟩,n.natAbs / 8,frT (n.natAbs % 8),?_,by omega,?_,?_,rfl⟩
 ·split
  ·exact .inr rfl
  ·exact .inl rfl
 ·have : n.natAbs % 8 < 8 := Nat.mod_lt _ (by decide);generalize n.natAbs % 8 = r at this
  match r,this with
  | 0,_ | 1,_ | 2,_ | 3,_ | 4,_ | 5,_ | 6,_ | 7,_ => rfl
 ·have : n.natAbs % 8 < 8 := Nat.mod_lt _ (by decide);generalize n.natAbs % 8 = r at this
  match r,this with
  | 0,_ | 1,_ | 2,_ | 3,_ | 4,_ | 5,_ | 6,_ | 7,_ => decide
theorem NumT.sp (hF : HasF) {f : Nat} {T : ByteArray} (h : NumT f T) : FltSp (canonF f) T := by
 obtain ⟨n,h0,h1,h2,h3,hT⟩ := id h;obtain ⟨sg,m,F,a1,a2,a3,a4,a5⟩ := eiT_sp h0 h1;exact ⟨sg,m,F,a1,a2,a3,a4,hT.trans a5,(canonF_ok hF h).2⟩
mutual
theorem gv_sp (hF : HasF) {env : List (ByteArray × JV)} : ∀ (j : JV) {li : Bool} {path : ByteArray} {ln : Nat} {nl : Bool} {T : ByteArray} {U : List ByteArray} {P : Pls},GV env li path ln j nl T U P → SpV (cE env) li j.canon nl T
 | .int v,_,_,_,_,_,_,_,h => by
  simp only [GV] at h;obtain ⟨h1,_,h⟩ := h;simp only [JV.canon,SpV];rcases h with ⟨_,h⟩ | ⟨k,_,h⟩
  ·exact ⟨h1,.inl h⟩
  ·have := h.sp;simp only [JV.canon] at this;exact ⟨h1,.inr this⟩
 | .num f,_,_,_,_,_,_,_,h => by
  simp only [GV] at h;simp only [JV.canon,SpV];exact ⟨h.1,h.2.2.2.sp hF⟩
 | .tr b,_,_,_,_,_,_,_,h => by
  simp only [GV] at h;simp only [JV.canon,SpV];exact ⟨h.1,h.2.2.2⟩
 | .txt t,_,_,_,_,_,_,_,h => by
  simp only [GV] at h;obtain ⟨_,h⟩ := h;simp only [JV.canon,SpV];rcases h with ⟨_,h⟩ | ⟨h1,k,_,h⟩
  ·exact .inl h
  ·have := h.sp;simp only [JV.canon] at this;exact .inr ⟨h1,this⟩
 | .arr l,_,_,_,_,_,_,_,h => by
  simp only [GV] at h;obtain ⟨h1,_,a,mk,b,Es,R,hl,hR,hT⟩ := h;simp only [JV.canon,SpV];refine ⟨h1,a,mk,b,Es,R,gl_sp hF l hl,?_,hT⟩;rcases hR with ⟨h,hr⟩ | ⟨h,hr⟩
  ·exact .inl ⟨canonL_nil.2 h,hr⟩
  ·exact .inr ⟨fun e => h (canonL_nil.1 e),hr⟩
 | .map ks l,_,_,_,_,_,_,_,h => by
  simp only [GV] at h;obtain ⟨h1,a,Es,hE,hp,hT⟩ := h;simp only [JV.canon,SpV];obtain ⟨h2,h3⟩ := ge_sp hF l hE;refine ⟨h1,a,Es,h2,hp,fun k hk x hx => ?_,hT⟩;obtain ⟨y,hy,rfl⟩ := List.mem_map.1 hx;exact h3 k hk y hy
theorem gl_sp (hF : HasF) {env : List (ByteArray × JV)} : ∀ (l : List JV) {mk : Nat} {first : Bool} {T : ByteArray} {U : List ByteArray},GL env mk first l T U → SpL (cE env) mk first (canonL l) T
 | [],_,_,_,_,h => by
  simp only [GL] at h;simp only [canonL,SpL];exact h.1
 | j :: r,_,_,_,_,h => by
  simp only [GL] at h;obtain ⟨V,R,U1,U2,path,ln,P,hV,hR,_,hT⟩ := h;simp only [canonL,SpL];exact ⟨V,R,gv_sp hF j hV,gl_sp hF r hR,hT⟩
theorem ge_sp (hF : HasF) {env : List (ByteArray × JV)} : ∀ (l : List JV) {path : ByteArray} {ln : Nat} {ks : List ByteArray} {T : ByteArray} {U : List ByteArray} {P : Pls} {envF : List (ByteArray × JV)},GE false env path ln ks l T U P envF → SpE (cE env) ks (canonL l) T ∧ ∀ k ∈ ks,∀ x ∈ env,x.1 ≠ k
 | [],_,_,_,_,_,_,_,h => by
  simp only [GE] at h;simp only [canonL,SpE];obtain ⟨rfl,h2,_⟩ := h;exact ⟨⟨rfl,h2⟩,fun k hk => by cases hk⟩
 | j :: r,_,_,_,_,_,_,_,h => by
  simp only [GE] at h;obtain ⟨env1,k0,ks',kb0,Kt0,q0,nl0,V0,e0,R,Ua,Ub,Pa,Pb,rfl,a1,a2,a3,a4,a5,a6,a7,a8,a9,a10,hr,hU,hP,hT⟩ := h;obtain rfl := a9 trivial;obtain ⟨h1,h2⟩ := ge_sp hF r hr;simp only [canonL,SpE];refine ⟨⟨k0,ks',kb0,Kt0,q0,nl0,V0,e0,R,rfl,a1,a2,a3,a4,gv_sp hF j a5,a6,a7,h1,hT⟩,fun k hk => ?_⟩;rcases List.mem_cons.1 hk with rfl | hk
  ·exact a8
  ·exact h2 k hk
end
theorem find_ins {p : ByteArray × JV → Bool} {x : ByteArray × JV} : ∀ l : List (ByteArray × JV),(p x = true → ∀ y ∈ l,p y = false) → (insL x l).find? p = if p x then some x else l.find? p
 | [],_ => by
  unfold insL
  cases h : p x <;> simp [h]
 | y :: r,hl => by
  unfold insL
  split
  ·cases h : p x <;> simp [h]
  ·have ih := find_ins r (fun h z hz => hl h z (List.mem_cons_of_mem _ hz))
   cases h : p x with
   | true =>
    rw [h,if_pos rfl] at ih;have hy := hl h y (List.mem_cons_self ..);simp [hy,ih]
   | false =>
    rw [h,if_neg (by decide)] at ih
    cases hy : p y <;> simp [hy,ih]
theorem find_filter {p q : ByteArray × JV → Bool} (hpq : ∀ y,p y = true → q y = true) : ∀ l : List (ByteArray × JV),(l.filter q).find? p = l.find? p
 | [] => rfl
 | y :: r => by
  cases hq : q y with
  | true =>
   rw [List.filter_cons_of_pos hq]
   cases hp : p y <;> simp [hp,find_filter hpq r]
  | false =>
   rw [List.filter_cons_of_neg (by rw [hq];decide)];have hp : p y = false := by
    cases hp : p y with
    | false => rfl
    | true => rw [hpq y hp] at hq;cases hq
   simp [hp,find_filter hpq r]
theorem lookM_put_same (k : ByteArray) (j : JV) (m : List (ByteArray × JV)) : lookM k (putL k j m) = some j := by
 unfold lookM putL;rw [find_ins _ (fun _ y hy => by
  have := (List.mem_filter.1 hy).2
  simpa using this),if_pos (by simp)]
 rfl
theorem lookM_put_other {s k : ByteArray} (j : JV) (m : List (ByteArray × JV)) (h : s ≠ k) : lookM s (putL k j m) = lookM s m := by
 unfold lookM putL;have hk : (k.data.toList == s.data.toList) = false := bytes_ne (fun e => h e.symm);rw [find_ins _ (fun e => by rw [hk] at e;cases e),if_neg (by rw [hk];decide),find_filter];intro y hy;rw [beq_iff_eq] at hy;rw [hy,bytes_ne h];rfl
theorem reads_g {K : PK} {s : ByteArray} {S E : Nat} {sk : List Nat} (hF : HasF) (hK : K.ped = false) (hss : s.size ≤ 700000) (M : Mode K S E sk) : ∀ (l : List JV) {kl : List ByteArray} {T : ByteArray} {U : List ByteArray} {P : Pls} {env envF : List (ByteArray × JV)} {path : ByteArray} {ln p pt : Nat} {m : List (ByteArray × JV)} {cx fin : List CJ} {ks : List ByteArray},
  GE true env path ln kl l T U P envF → (∀ x ∈ env,lookM x.1 m = some x.2.canon) → Has s p T → cx.length ≤ p + 1 → sk.length ≤ p + 1 → ks.length ≤ p + 1 → m.length ≤ p + 1 → pt ≠ 3 →
  (∀ pt',pt' ≠ 3 → Fd K s (p + T.size) (p + T.size) sk (plainT S) (.map (puts kl (canonL l) m) :: cx) ks pt' fin) → Fd K s p p sk (plainT S) (.map m :: cx) ks pt fin
 | [],kl,T,U,P,env,envF,path,ln,p,pt,m,cx,fin,ks,h,he,hh,b1,b2,b3,b4,hpt,rest => by
  simp only [GE] at h;obtain ⟨rfl,rfl,_⟩ := h;exact rest pt hpt
 | j :: r,kl,T,U,P,env,envF,path,ln,p,pt,m,cx,fin,ks,h,he,hh,b1,b2,b3,b4,hpt,rest => by
  simp only [GE] at h;obtain ⟨env1,k,ks',kb,Kt,q,nl,V,e,R,Ua,Ub,Pa,Pb,rfl,hk,hkw,hks,hq,hG,hee,hnl,hd,_,hm,hr,_,_,rfl⟩ := h;have hV := gv_sp hF j hG;have h0 := hh.left;have hb1 := hh.right;have hK1 := hb1.left;have hb2 := hb1.right;have hV1 := hb2.left;have hb3 := hb2.right;have hE1 := hb3.left;have hR1 := hb3.right;have hle := hh.le;simp only [bsa] at rest hle hV1 hE1 hR1;have hf := spv_first hV;have hv := hf.2.vs;have ev := hV1.at 0 hf.1;rw [Nat.add_zero] at ev;have hvl := hV1.lt 0 hf.1;rw [Nat.add_zero] at hvl;have het := hE1.tm (endR_tm e hee);have hz1 := (endR_tm e hee).1;have hEnv : EnvOk (cE env) (.map m :: cx) := fun x hx => by
   obtain ⟨y,hy,rfl⟩ := List.mem_map.1 hx;show (match lookM y.1 m with | some j => some j | none => lookCx y.1 cx) = _;rw [he y hy]
  refine M.blank kb h0 hpt fun pt1 hpt1 => ?_
  refine M.key s _ _ _ _ _ k Kt q hk hkw hq hK1 hvl (by rw [ev];exact hv.1) (by rw [ev];exact ⟨hv.2.1,hv.2.2.1⟩) (by omega) ?_
  refine reads_v hK hss j.canon (cx := .map m :: cx) (cx1 := .map (putL k j.canon m) :: cx) (ks1 := ks) hV hEnv hV1 het.1 het.2 (fun h => by
    have := hE1.at 0 hz1;rw [Nat.add_zero] at this;rw [this,hnl h]
    rfl) (by simp) (by simp only [List.length_cons];omega) (by omega) (by simp only [List.length_append,List.length_cons,List.length_nil];omega)
   (fun L => .map m cx ks k rfl rfl (by omega) (by omega) hks) fun pt2 hpt2 => ?_
  refine M.ends e hee hE1 hpt2 fun pt3 hpt3 => ?_
  refine reads_g hF hK hss M r hr (fun x hx => ?_) hR1 (by omega) (by omega) (by omega) (by have := putL_len k j.canon m;omega) hpt3 fun pt4 hpt4 => ?_
  ·rcases hm x hx with h | rfl
   ·rw [lookM_put_other _ _ (hd x h)];exact he x h
   ·exact lookM_put_same _ _ _
  ·have := rest pt4 hpt4;rw [show p + ((blankT kb).size + (Kt.size + (sepT q).size + (V.size + ((endR e).size + R.size)))) = p + (blankT kb).size + (Kt.size + (sepT q).size) + V.size + (endR e).size + R.size from by omega] at this;exact this
theorem Asc.endR (e : Nat) (he : e < 7) : Asc (endR e) := by
 match e,he with
 | 0,_ => exact Asc.end 0 (by decide)
 | 1,_ => exact Asc.end 1 (by decide)
 | 2,_ => exact Asc.end 2 (by decide)
 | 3,_ => exact Asc.end 3 (by decide)
 | 4,_ => exact Asc.end 4 (by decide)
 | 5,_ => exact Asc.one 59 (by decide)
 | 6,_ => exact Asc.one 44 (by decide)
theorem Asc.nil : Asc ⟨#[]⟩ := fun i hi => absurd hi (Nat.not_lt_zero i)
theorem Asc.sp3 : ∀ a,Asc (Go.Cf.sp3 a)
 | 0 => Asc.nil
 | 1 => Asc.one 32 (by decide)
 | _ + 2 => Asc.one 10 (by decide)
theorem Asc.mkT : ∀ a,Asc (Go.Cf.mkT a)
 | 0 => Asc.one 44 (by decide)
 | 1 => fun i hi => (show ∀ i,i < 2 → byteAt (Go.Cf.mkT 1) i < 128 by decide) i hi
 | 2 => Asc.one 10 (by decide)
 | _ + 3 => fun i hi => (show ∀ i,i < 5 → byteAt (⟨#[32,44,10,32,32]⟩) i < 128 by decide) i hi
theorem Asc.tlT : ∀ a,Asc (Go.Cf.tlT a)
 | 0 => Asc.one 44 (by decide)
 | 1 => Asc.one 32 (by decide)
 | _ + 2 => Asc.one 10 (by decide)
theorem Asc.txtS {t T : ByteArray} {li nl : Bool} (h : TxtS t li nl T) : Asc T := by
 cases h with
 | blk hb _ =>
  refine ((Asc.one 40 (by decide)).app fun i hi => ?_).app (Asc.one 41 (by decide));rcases Nat.eq_zero_or_pos i with rfl | h0
  ·rw [hb.first];decide
  ·rcases (hb.mid i h0 hi).2 with h | h <;> omega
 | sq hP => exact ((Asc.one 39 (by decide)).app (Asc.plain hP)).app (Asc.one 39 (by decide))
 | bare hB _ => exact Asc.bare hB
 | dq hP => exact ((Asc.one 34 (by decide)).app (Asc.esc hP)).app (Asc.one 34 (by decide))
theorem Asc.varK {env : List (ByteArray × JV)} {k : ByteArray} {j : JV} {T : ByteArray} (h : VarK env k j T) : Asc T := by
 obtain ⟨_,h2,rfl⟩ := h;exact (Asc.one 36 (by decide)).app (Asc.bare h2)
theorem Asc.num {f : Nat} {T : ByteArray} (h : NumT f T) : Asc T := by
 obtain ⟨n,h0,h1,_,_,rfl⟩ := h;obtain ⟨sg,m,F,hsg,hm,hF,hd,e⟩ := eiT_sp h0 h1;rw [e];unfold fltT;have h1 : Asc (sg ++ decB m) := fun i hi => by have := sgdig sg m hsg i hi;omega
 have h2 : Asc F := fun i hi => by have := hd i hi;omega
 exact (h1.app (Asc.one 46 (by decide))).app h2
mutual
theorem gv_asc {env : List (ByteArray × JV)} : ∀ (j : JV) {li : Bool} {path : ByteArray} {ln : Nat} {nl : Bool} {T : ByteArray} {U : List ByteArray} {P : Pls},GV env li path ln j nl T U P → Asc T
 | .int v,_,_,_,_,_,_,_,h => by
  simp only [GV] at h;rcases h.2.2 with ⟨_,h⟩ | ⟨k,_,h⟩
  ·exact Asc.int h
  ·exact Asc.varK h
 | .num f,_,_,_,_,_,_,_,h => by
  simp only [GV] at h;exact Asc.num h.2.2.2
 | .tr b,_,_,_,_,_,_,_,h => by
  simp only [GV] at h;obtain ⟨_,_,_,i,hi,rfl⟩ := h;intro k hk;exact ((trT_ok b i hi).2.2.2.1 k hk).2.2
 | .txt t,_,_,_,_,_,_,_,h => by
  simp only [GV] at h;rcases h.2 with ⟨_,h⟩ | ⟨_,k,_,h⟩
  ·exact Asc.txtS h
  ·exact Asc.varK h
 | .arr l,_,_,_,_,_,_,_,h => by
  simp only [GV] at h;obtain ⟨h1,_,a,mk,b,Es,R,hl,hR,rfl⟩ := h;have hR' : Asc R := by
   rcases hR with ⟨_,rfl⟩ | ⟨_,tl,rfl⟩
   ·exact Asc.nil
   ·exact Asc.tlT tl
  exact (Asc.one 91 (by decide)).app ((Asc.sp3 a).app ((gl_asc l hl).app (hR'.app ((Asc.sp3 b).app (Asc.one 93 (by decide))))))
 | .map ks l,_,_,_,_,_,_,_,h => by
  simp only [GV] at h;obtain ⟨h1,a,Es,hE,hp,rfl⟩ := h;exact (Asc.one 123 (by decide)).app ((Asc.sp3 a).app ((ge_asc l hE).app (Asc.one 125 (by decide))))
theorem gl_asc {env : List (ByteArray × JV)} : ∀ (l : List JV) {mk : Nat} {first : Bool} {T : ByteArray} {U : List ByteArray},GL env mk first l T U → Asc T
 | [],_,_,_,_,h => by
  simp only [GL] at h;obtain ⟨rfl,_⟩ := h;exact Asc.nil
 | j :: r,mk,first,_,_,h => by
  simp only [GL] at h;obtain ⟨V,R,U1,U2,path,ln,P,hV,hR,_,rfl⟩ := h;refine Asc.app ?_ ((gv_asc j hV).app (gl_asc r hR))
  cases first
  ·exact Asc.mkT mk
  ·exact Asc.nil
theorem ge_asc {top : Bool} : ∀ (l : List JV) {env : List (ByteArray × JV)} {path : ByteArray} {ln : Nat} {ks : List ByteArray} {T : ByteArray} {U : List ByteArray} {P : Pls} {envF : List (ByteArray × JV)},GE top env path ln ks l T U P envF → Asc T
 | [],_,_,_,_,_,_,_,_,h => by
  simp only [GE] at h;obtain ⟨_,rfl,_⟩ := h;exact Asc.nil
 | j :: r,_,_,_,_,_,_,_,_,h => by
  simp only [GE] at h;obtain ⟨env1,k0,ks',kb0,Kt0,q0,nl0,V0,e0,R,Ua,Ub,Pa,Pb,rfl,a1,a2,a3,a4,a5,a6,a7,a8,a9,a10,hr,hU,hP,rfl⟩ := h;exact (Asc.blank kb0).app (((Asc.key a1).app (Asc.sep q0 a4)).app ((gv_asc j a5).app ((Asc.endR e0 a6).app (ge_asc r hr))))
end
section
variable {l l2 : List JV} {kl kl2 : List ByteArray} {T T2 : ByteArray} {U U2 : List ByteArray} {P P2 : Pls} {envF envF2 : List (ByteArray × JV)} {path path2 : ByteArray} {ln ln2 : Nat}
theorem puts_len : ∀ (kl : List ByteArray) (l : List JV) (m : List (ByteArray × JV)),(puts kl l m).length ≤ m.length + l.length
 | [],_,_ => by simp [puts]
 | _ :: _,[],_ => by simp [puts]
 | k :: ks,j :: l,m => by
  show (puts ks l (putL k j m)).length ≤ _
  have := puts_len ks l (putL k j m);have := putL_len k j m;simp only [List.length_cons];omega
theorem read_behind (hF : HasF) (h : GE true [] path ln kl l T U P envF) (h2 : GE true [] path2 ln2 kl2 l2 T2 U2 P2 envF2) (hs : (T ++ T2).size ≤ 700000) (hl : l.length ≤ T.size) : ReadAs (T ++ T2) (puts kl2 (canonL l2) (puts kl (canonL l) [])) := by
 refine readAs_of (by omega) ((ge_asc l h).app (ge_asc l2 h2)) fun K hK => ?_
 have hh := Has.all (T ++ T2);have hsz : (T ++ T2).size = T.size + T2.size := bsa;have hlen := puts_len kl (canonL l) [];rw [canonL_len] at hlen;simp only [List.length_nil,Nat.zero_add] at hlen;refine reads_g hF hK hs (mode_top hK) l h (by simp) hh.left (by simp) (by simp) (by simp) (by simp) (by decide) fun pt hpt => ?_
 refine reads_g hF hK hs (mode_top hK) l2 h2 (by simp) hh.right (by simp) (by simp) (by simp) (by omega) hpt fun pt2 hpt2 => ?_
 exact Fd.eof (ld_top_eof (by omega) rfl) hpt2
end
attribute [local go_sem ↓] appX_eq
attribute [local go_sem] run_store_flt
structure WroteU (W W' : CW) (T : ByteArray) (U : List ByteArray) : Prop where
 text : W'.text = W.text ++ T
 bad : W'.bad = false → W.bad = false
 line : W'.line = W.line + nlc T T.size
 known : W'.known = W.known
 nv : W'.nv = W.nv
 vals : W'.vals = W.vals
 used : W'.used = W.used ++ U
 inner : W'.inner = W.inner
 ub : ∀ k ∈ U,k.size ≤ T.size
theorem Wrote.toU {W W' : CW} {T : ByteArray} (h : Wrote W W' T) : WroteU W W' T [] := ⟨h.text,h.bad,h.line,h.known,h.nv,h.vals,by rw [h.used,List.append_nil],h.inner,fun _ h => nomatch h⟩
theorem WroteU.trans {W W1 W2 : CW} {T T2 : ByteArray} {U U2 : List ByteArray} (h : WroteU W W1 T U) (k : WroteU W1 W2 T2 U2) : WroteU W W2 (T ++ T2) (U ++ U2) :=
 ⟨by rw [k.text,h.text,ByteArray.append_assoc],fun e => h.bad (k.bad e),by rw [k.line,h.line,nlc_app,Nat.add_assoc],k.known.trans h.known,k.nv.trans h.nv,k.vals.trans h.vals,by rw [k.used,h.used,List.append_assoc],k.inner.trans h.inner,fun x hx => by
  rw [bsa];rcases List.mem_append.1 hx with hx | hx
  ·have := h.ub x hx;omega
  ·have := k.ub x hx;omega⟩
theorem WroteU.size {W W1 : CW} {T : ByteArray} {U : List ByteArray} (h : WroteU W W1 T U) : W1.text.size = W.text.size + T.size := by rw [h.text,bsa]
theorem WroteU.line_le {W W1 : CW} {T : ByteArray} {U : List ByteArray} (h : WroteU W W1 T U) : W1.line ≤ W.line + T.size := by rw [h.line];have := nlc_le T T.size;omega
def KVc (j : JV) (c : Array Value) : Prop := ∃ n f b s a1 m1 c1 a2 m2 c2,c = ndC j.kind n f b s (.slice a1 m1 c1) (.slice a2 m2 c2) ∧ (∀ v,j = .int v → n = v ∧ s = ⟨#[]⟩) ∧ (∀ t,j = .txt t → n = 0 ∧ s = t)
def KVs : List JV → List (Array Value) → Prop
 | [],[] => True
 | j :: r,c :: cs => KVc j c ∧ KVs r cs
 | _,_ => False
theorem KVs.len : ∀ {l : List JV} {cs : List (Array Value)},KVs l cs → cs.length = l.length
 | [],[],_ => rfl
 | _ :: _,_ :: _,h => by simp only [KVs] at h;simp [h.2.len]
 | [],_ :: _,h => by simp [KVs] at h
 | _ :: _,[],h => by simp [KVs] at h
theorem KVs.get : ∀ {l : List JV} {cs : List (Array Value)} {i : Nat} {j : JV},KVs l cs → l[i]? = some j → ∃ c,cs[i]? = some c ∧ KVc j c
 | _ :: _,_ :: _,0,j,h,hj => by
  simp only [KVs] at h;simp only [List.getElem?_cons_zero,Option.some.injEq] at hj;subst hj;exact ⟨_,rfl,h.1⟩
 | _ :: _,_ :: _,i + 1,j,h,hj => by
  simp only [KVs] at h;obtain ⟨c,h1,h2⟩ := h.2.get (by simpa using hj);exact ⟨c,by simpa using h1,h2⟩
theorem KVs.app : ∀ {l : List JV} {cs : List (Array Value)} {j : JV} {c : Array Value},KVs l cs → KVc j c → KVs (l ++ [j]) (cs ++ [c])
 | [],[],_,_,_,h => by simpa [KVs] using h
 | _ :: _,_ :: _,_,_,h,h2 => by
  simp only [KVs,List.cons_append] at h ⊢;exact ⟨h.1,h.2.app h2⟩
 | [],_ :: _,_,_,h,_ => by simp [KVs] at h
 | _ :: _,[],_,_,h,_ => by simp [KVs] at h
theorem NdV.kvc {ℓ : Nat} {lab : Lab} {w : World} {j : JV} {c : Array Value} (h : NdV ℓ lab w j c) : KVc j c := by
 cases j with
 | int n =>
  simp only [NdV] at h;obtain ⟨f,a1,c1,a2,c2,hf,rfl⟩ := h;exact ⟨_,_,_,_,_,_,_,_,_,_,rfl,fun v e => by cases e;exact ⟨rfl,rfl⟩,fun t e => by cases e⟩
 | num f =>
  simp only [NdV] at h;obtain ⟨a1,c1,a2,c2,rfl⟩ := h;exact ⟨_,_,_,_,_,_,_,_,_,_,rfl,fun v e => by (cases e),fun t e => by cases e⟩
 | tr b =>
  simp only [NdV] at h;obtain ⟨f,a1,c1,a2,c2,hf,rfl⟩ := h;exact ⟨_,_,_,_,_,_,_,_,_,_,rfl,fun v e => by (cases e),fun t e => by cases e⟩
 | txt t =>
  simp only [NdV] at h;obtain ⟨f,a1,c1,a2,c2,hf,rfl⟩ := h;exact ⟨_,_,_,_,_,_,_,_,_,_,rfl,fun v e => by (cases e),fun t e => by cases e;exact ⟨rfl,rfl⟩⟩
 | arr l =>
  simp only [NdV] at h;obtain ⟨f,a1,c1,a2,c2,hf,rfl,hl⟩ := h;exact ⟨_,_,_,_,_,_,_,_,_,_,rfl,fun v e => by (cases e),fun t e => by cases e⟩
 | map ks l =>
  simp only [NdV] at h;obtain ⟨f,a1,c1,a2,c2,hf,rfl,hk,hl⟩ := h;exact ⟨_,_,_,_,_,_,_,_,_,_,rfl,fun v e => by (cases e),fun t e => by cases e⟩
noncomputable def inB (s : ByteArray) (ks : List ByteArray) : Bool := @decide (s ∈ ks) (Classical.propDecidable _)
theorem inB_true {s : ByteArray} {ks : List ByteArray} (h : s ∈ ks) : inB s ks = true := by unfold inB;exact @decide_eq_true _ (Classical.propDecidable _) h
theorem inB_false {s : ByteArray} {ks : List ByteArray} (h : s ∉ ks) : inB s ks = false := by unfold inB;exact @decide_eq_false _ (Classical.propDecidable _) h
theorem of_inB {s : ByteArray} {ks : List ByteArray} (h : inB s ks = false) : s ∉ ks := fun e => by rw [inB_true e] at h;cases h
noncomputable def envW (known : List ByteArray) (kj : List JV) (inner : List ByteArray) : List (ByteArray × JV) := (known.zip kj).filter fun x => !inB x.1 inner
theorem envW_mem {known : List ByteArray} {kj : List JV} {inner : List ByteArray} {i : Nat} {k : ByteArray} {j : JV} (h1 : known[i]? = some k) (h2 : kj[i]? = some j) (h3 : k ∉ inner) : (k,j) ∈ envW known kj inner := by
 unfold envW;rw [List.mem_filter];refine ⟨List.mem_of_getElem? (i := i) ?_,by simp only [inB_false h3,Bool.not_false]⟩;rw [List.getElem?_zip_eq_some];exact ⟨h1,h2⟩
section
variable {lab lab1 : Lab} {w w1 : World} {b : Nat} {W W1 W2 : CW} {T T2 : ByteArray}
set_option maxRecDepth 100000 in
set_option maxHeartbeats 2000000 in
theorem confIn_c (a : Option Addr) (c : Nat) (ks : List ByteArray) (s : ByteArray) (w : World) (hn : NewsIn w a ks) (hl : ks.length ≤ 100000000) : Calls Tryz.prog 50 #[.slice a ks.length c,.string s] w fun e w' => e = .returned (.bool (inB s ks)) ∧ ∃ n,w' = w.drewN n := by
 have HN := Lib.hid hn;clear hn;go_enter Tryz.func50,Tryz.ntmps50;go_wp2_with fail;go_loopw [9] (fun i wr => ∃ q : Nat,i = .int .i64 q ∧ q ≤ ks.length ∧ wr = w ∧ s ∉ ks.take q) (fun i _ => ks.length - (RowKit.intOf i).toNat)
 case atStart => exact ⟨0,rfl,Nat.zero_le _,rfl,by simp⟩
 case round =>
  obtain ⟨q,rfl,hq,hwr,hs⟩ := hrel;have hwr' := hwr.symm;clear hwr;subst hwr';by_cases hlt : q < ks.length
  ·have hq1 : (q : Int) < (ks.length : Int) := by omega
   have hq0 : (0 : Int) ≤ (q : Int) := Int.natCast_nonneg _;obtain ⟨k,hk⟩ : ∃ k,ks[q]? = some k := ⟨_,List.getElem?_eq_getElem hlt⟩;obtain ⟨ad,rfl,hc⟩ := HN.out q k hk;by_cases hks : k = s
   ·subst hks;have hin : inB k ks = true := inB_true (List.mem_of_getElem? hk);have HIN := Lib.hid hin;clear hin;clear hs;go_wp2;go_ret;exact ⟨by rw [HIN.out];rfl,0,rfl⟩
   ·have hs' : s ∉ ks.take (q + 1) := by
     rw [List.take_add_one,hk];simp only [Option.toList_some,List.mem_append,List.mem_singleton,not_or];exact ⟨hs,fun e => hks e.symm⟩
    have hks2 : (k.toList == s.toList) = false := by rw [Lib.toList_data,Lib.toList_data];exact bytes_ne hks
    clear hs;have HS := Lib.hid hs';clear hs';go_wp2;exact ⟨⟨q + 1,by go_num,by omega,trivial,HS.out⟩,by simp [RowKit.intOf];omega⟩
  ·have hq1 : ¬ ((q : Int) < (ks.length : Int)) := by omega
   obtain rfl : q = ks.length := by omega
   rw [List.take_length] at hs;have hin : inB s ks = false := inB_false hs;have HIN := Lib.hid hin;clear hin;clear hs;go_wp2;go_ret;exact ⟨by rw [HIN.out];rfl,0,rfl⟩
end
end Go.Cf
