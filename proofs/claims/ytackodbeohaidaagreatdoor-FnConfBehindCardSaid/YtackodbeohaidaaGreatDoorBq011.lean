/-
  Texts joined: Nv Pu Vf Tr In Wt Cw Ik Il Ib.
-/
import Derived.Test.YtackodbeohaidaaGreatDoorBq04
import Derived.Test.YtackodbeohaidaaGreatDoorBq08
import Derived.Test.YtackodbeohaidaaGreatDoorBq010
namespace Go.Cf
open Go.RowKit Go.Conc Go.Proofs
def cell7 (w : World) (a : Addr) (i : Nat) (c : Array Value) : Prop := ∀ j,j < 7 → w.cell? (a.add (i * 7 + j)) = c[j]?
def KsIn (ℓ : Nat) (lab : Lab) (w : World) (a : Option Addr) (ks : List ByteArray) : Prop := ∀ i k,ks[i]? = some k → ∃ ad : Addr,a = some ad ∧ lab ad.block = ℓ ∧ w.cell? (ad.add i) = some (.string k)
mutual
def NdV (ℓ : Nat) (lab : Lab) (w : World) : JV → Array Value → Prop
 | .int n,c => ∃ f a1 c1 a2 c2,FZ f ∧ c = ndC 1 n f false { data := #[] } (.slice a1 0 c1) (.slice a2 0 c2)
 | .num f,c => ∃ a1 c1 a2 c2,c = ndC 2 0 f false { data := #[] } (.slice a1 0 c1) (.slice a2 0 c2)
 | .tr b,c => ∃ f a1 c1 a2 c2,FZ f ∧ c = ndC 3 0 f b { data := #[] } (.slice a1 0 c1) (.slice a2 0 c2)
 | .txt s,c => ∃ f a1 c1 a2 c2,FZ f ∧ c = ndC 4 0 f false s (.slice a1 0 c1) (.slice a2 0 c2)
 | .arr l,c => ∃ f a1 c1 a2 c2,FZ f ∧ c = ndC 5 0 f false { data := #[] } (.slice a1 0 c1) (.slice a2 l.length c2) ∧ NdVs ℓ lab w a2 0 l
 | .map ks l,c => ∃ f a1 c1 a2 c2,FZ f ∧ c = ndC 6 0 f false { data := #[] } (.slice a1 ks.length c1) (.slice a2 l.length c2) ∧ KsIn ℓ lab w a1 ks ∧ NdVs ℓ lab w a2 0 l
def NdVs (ℓ : Nat) (lab : Lab) (w : World) (a : Option Addr) : Nat → List JV → Prop
 | _,[] => True
 | i,j :: r => (∃ (ad : Addr) (c : Array Value),a = some ad ∧ lab ad.block = ℓ ∧ cell7 w ad i c ∧ NdV ℓ lab w j c) ∧ NdVs ℓ lab w a (i + 1) r
end
def JT : Nat → JV → Prop
 | 0,_ => False
 | _ + 1,.int n => -9223372036854775808 ≤ n ∧ n ≤ 9223372036854775807
 | _ + 1,.num f => FloatKind.f64.format.order f f = some .eq
 | _ + 1,.tr _ => True
 | _ + 1,.txt t => t.size ≤ 60
 | d + 1,.arr l => l.length ≤ 8 ∧ ∀ j ∈ l,JT d j
 | d + 1,.map ks l => ks.length ≤ 8 ∧ l.length ≤ 8 ∧ (∀ k ∈ ks,k.size ≤ 20) ∧ ∀ j ∈ l,JT d j
def NdR (w : World) : Nat → Array Value → Prop
 | d,c => ∃ (k n : Int) (f : Nat) (is : Bool) (t : ByteArray) (a1 : Option Addr) (m1 c1 : Nat) (a2 : Option Addr) (m2 c2 : Nat),c = ndC k n f is t (.slice a1 m1 c1) (.slice a2 m2 c2) ∧ -9223372036854775808 ≤ n ∧ n ≤ 9223372036854775807 ∧
   t.size ≤ maxLen ∧ m1 ≤ maxLen ∧ m2 ≤ maxLen ∧ KeysIn w a1 m1 ∧ (match d with
    | 0 => True
    | d + 1 => ∀ i,i < m2 → ∃ (ad : Addr) (c' : Array Value),a2 = some ad ∧ cell7 w ad i c' ∧ NdR w d c')
section
variable {ℓ : Nat} {M : Nat → Prop} {w w1 : World} {lab lab1 : Lab}
theorem cell_mv {a : Addr} {v : Value} (m : Mv M w lab w1 lab1) (hl : ¬ M (lab a.block)) (h : w.cell? a = some v) : w1.cell? a = some v := by
 have hb := m.block a.block (World.block_lt_of_cell? w _ h) hl;unfold World.cell? at h ⊢;rw [hb];exact h
theorem add_block (a : Addr) (i : Nat) : (a.add i).block = a.block := by unfold Addr.add;split <;> rfl
theorem KsIn.mv {a : Option Addr} {ks : List ByteArray} (h : KsIn ℓ lab w a ks) (m : Mv M w lab w1 lab1) (hM : ¬ M ℓ) : KsIn ℓ lab1 w1 a ks := by
 intro i k hk;obtain ⟨ad,rfl,hl,hc⟩ := h i k hk;have hlt := World.block_lt_of_cell? w _ hc;rw [add_block] at hlt;exact ⟨ad,rfl,(m.lab _ hlt (by rw [hl];exact hM)).trans hl,cell_mv m (by rw [add_block,hl];exact hM) hc⟩
theorem ndC_some {k n : Int} {f : Nat} {b : Bool} {s : ByteArray} {kv lv : Value} (j : Nat) (hj : j < 7) : ∃ v,(ndC k n f b s kv lv)[j]? = some v := by
 match j,hj with
 | 0,_ | 1,_ | 2,_ | 3,_ | 4,_ | 5,_ | 6,_ => exact ⟨_,rfl⟩
theorem NdV.shape : ∀ {j : JV} {c : Array Value},NdV ℓ lab w j c → ∃ k n f b s a1 m1 c1 a2 m2 c2,c = ndC k n f b s (.slice a1 m1 c1) (.slice a2 m2 c2)
 | .int _,_,h => by simp only [NdV] at h;obtain ⟨f,a1,c1,a2,c2,_,rfl⟩ := h;exact ⟨_,_,_,_,_,_,_,_,_,_,_,rfl⟩
 | .num _,_,h => by simp only [NdV] at h;obtain ⟨a1,c1,a2,c2,rfl⟩ := h;exact ⟨_,_,_,_,_,_,_,_,_,_,_,rfl⟩
 | .tr _,_,h => by simp only [NdV] at h;obtain ⟨f,a1,c1,a2,c2,_,rfl⟩ := h;exact ⟨_,_,_,_,_,_,_,_,_,_,_,rfl⟩
 | .txt _,_,h => by simp only [NdV] at h;obtain ⟨f,a1,c1,a2,c2,_,rfl⟩ := h;exact ⟨_,_,_,_,_,_,_,_,_,_,_,rfl⟩
 | .arr _,_,h => by simp only [NdV] at h;obtain ⟨f,a1,c1,a2,c2,_,rfl,_⟩ := h;exact ⟨_,_,_,_,_,_,_,_,_,_,_,rfl⟩
 | .map _ _,_,h => by simp only [NdV] at h;obtain ⟨f,a1,c1,a2,c2,_,rfl,_⟩ := h;exact ⟨_,_,_,_,_,_,_,_,_,_,_,rfl⟩
mutual
theorem NdV.mv (m : Mv M w lab w1 lab1) (hM : ¬ M ℓ) : ∀ (j : JV) {c : Array Value},NdV ℓ lab w j c → NdV ℓ lab1 w1 j c
 | .int n,c,h => by simp only [NdV] at h ⊢;exact h
 | .num n,c,h => by simp only [NdV] at h ⊢;exact h
 | .tr n,c,h => by simp only [NdV] at h ⊢;exact h
 | .txt n,c,h => by simp only [NdV] at h ⊢;exact h
 | .arr l,c,h => by
  simp only [NdV] at h ⊢;obtain ⟨f,a1,c1,a2,c2,hf,hc,hl⟩ := h;exact ⟨f,a1,c1,a2,c2,hf,hc,NdVs.mv m hM l hl⟩
 | .map ks l,c,h => by
  simp only [NdV] at h ⊢;obtain ⟨f,a1,c1,a2,c2,hf,hc,hk,hl⟩ := h;exact ⟨f,a1,c1,a2,c2,hf,hc,hk.mv m hM,NdVs.mv m hM l hl⟩
theorem NdVs.mv (m : Mv M w lab w1 lab1) (hM : ¬ M ℓ) : ∀ (l : List JV) {a : Option Addr} {i : Nat},NdVs ℓ lab w a i l → NdVs ℓ lab1 w1 a i l
 | [],_,_,h => by simp only [NdVs]
 | j :: r,a,i,h => by
  simp only [NdVs] at h ⊢;obtain ⟨⟨ad,c,ha,hl,hc,hj⟩,hr⟩ := h;have hc2 : ∀ q,q < 7 → w1.cell? (ad.add (i * 7 + q)) = c[q]? := fun q hq => by
   obtain ⟨k,n,f,b,s,_,_,_,_,_,_,rfl⟩ := hj.shape;obtain ⟨v,hv⟩ := ndC_some (k := k) (n := n) (f := f) (b := b) (s := s) q hq;have h1 := hc q hq;rw [hv] at h1 ⊢;exact cell_mv m (by rw [add_block,hl];exact hM) h1
  have hlt : ad.block < w.heap.size := by
   obtain ⟨k,n,f,b,s,_,_,_,_,_,_,rfl⟩ := hj.shape;have h1 := hc 0 (by decide);have := World.block_lt_of_cell? w _ (show w.cell? (ad.add (i * 7 + 0)) = some (.int .i64 k) from h1);rwa [add_block] at this
  exact ⟨⟨ad,c,ha,(m.lab _ hlt (by rw [hl];exact hM)).trans hl,hc2,NdV.mv m hM j hj⟩,NdVs.mv m hM r hr⟩
end
theorem NdVs.get : ∀ {l : List JV} {a : Option Addr} {i q : Nat} {j : JV},NdVs ℓ lab w a i l → l[q]? = some j → ∃ (ad : Addr) (c : Array Value),a = some ad ∧ lab ad.block = ℓ ∧ cell7 w ad (i + q) c ∧ NdV ℓ lab w j c
 | _ :: _,_,_,0,_,h,hj => by
  simp only [NdVs] at h;simp only [List.getElem?_cons_zero,Option.some.injEq] at hj;subst hj;exact h.1
 | _ :: _,_,i,q + 1,_,h,hj => by
  simp only [NdVs] at h;obtain ⟨ad,c,h1,h2,h3,h4⟩ := NdVs.get h.2 (by simpa using hj);exact ⟨ad,c,h1,h2,by rw [show i + (q + 1) = i + 1 + q from by omega];exact h3,h4⟩
theorem NdVs.of : ∀ {l : List JV} {a : Option Addr} {i : Nat},(∀ q j,l[q]? = some j → ∃ (ad : Addr) (c : Array Value),a = some ad ∧ lab ad.block = ℓ ∧ cell7 w ad (i + q) c ∧ NdV ℓ lab w j c) → NdVs ℓ lab w a i l
 | [],_,_,_ => by simp only [NdVs]
 | j :: r,a,i,h => by
  simp only [NdVs];refine ⟨h 0 j rfl,NdVs.of fun q j' hq => ?_⟩;obtain ⟨ad,c,h1,h2,h3,h4⟩ := h (q + 1) j' (by simpa using hq);exact ⟨ad,c,h1,h2,by rw [show i + 1 + q = i + (q + 1) from by omega];exact h3,h4⟩
theorem NdR.below (b : Below w.heap.size w w1) : ∀ (d : Nat) {c : Array Value},NdR w d c → NdR w1 d c := by
 intro d
 induction d with
 | zero =>
  intro c h;unfold NdR at h ⊢;obtain ⟨k,n,f,is,t,a1,m1,c1,a2,m2,c2,h1,h2,h3,h4,h5,h6,h7,h8⟩ := h;exact ⟨k,n,f,is,t,a1,m1,c1,a2,m2,c2,h1,h2,h3,h4,h5,h6,h7.below b,trivial⟩
 | succ d ih =>
  intro c h;unfold NdR at h ⊢;obtain ⟨k,n,f,is,t,a1,m1,c1,a2,m2,c2,h1,h2,h3,h4,h5,h6,h7,h8⟩ := h;refine ⟨k,n,f,is,t,a1,m1,c1,a2,m2,c2,h1,h2,h3,h4,h5,h6,h7.below b,fun i hi => ?_⟩;obtain ⟨ad,c',ha,hc,hr⟩ := h8 i hi;refine ⟨ad,c',ha,fun q hq => ?_,ih hr⟩;have h0 := hc q hq;have hx : ∃ v,c'[q]? = some v := by
   unfold NdR at hr;obtain ⟨k,n,f,is,t,a1,m1,c1,a2,m2,c2,rfl,_⟩ := hr;exact ndC_some q hq
  obtain ⟨v,hv⟩ := hx;rw [hv] at h0 ⊢;exact b.cellB h0
end
attribute [local go_sem] run_store_flt
def PuK1 (n : Int) (f : Nat) (is : Bool) (t : ByteArray) (m1 m2 : Nat) : Prop := (n = n ∧ f = f ∧ is = is ∧ t = t ∧ m1 = m1 ∧ m2 = m2) ∧ FZ f ∧ is = false ∧ t = { data := #[] } ∧ m1 = 0 ∧ m2 = 0
def PuK2 (n : Int) (f : Nat) (is : Bool) (t : ByteArray) (m1 m2 : Nat) : Prop := (n = n ∧ f = f ∧ is = is ∧ t = t ∧ m1 = m1 ∧ m2 = m2) ∧ n = 0 ∧ FloatKind.f64.format.order f f = some .eq ∧ is = false ∧ t = { data := #[] } ∧ m1 = 0 ∧ m2 = 0
def PuK3 (n : Int) (f : Nat) (is : Bool) (t : ByteArray) (m1 m2 : Nat) : Prop := (n = n ∧ f = f ∧ is = is ∧ t = t ∧ m1 = m1 ∧ m2 = m2) ∧ n = 0 ∧ FZ f ∧ t = { data := #[] } ∧ m1 = 0 ∧ m2 = 0
def PuK4 (n : Int) (f : Nat) (is : Bool) (t : ByteArray) (m1 m2 : Nat) : Prop := (n = n ∧ f = f ∧ is = is ∧ t = t ∧ m1 = m1 ∧ m2 = m2) ∧ n = 0 ∧ FZ f ∧ is = false ∧ m1 = 0 ∧ m2 = 0
def PuK5 (n : Int) (f : Nat) (is : Bool) (t : ByteArray) (m1 m2 : Nat) : Prop := (n = n ∧ f = f ∧ is = is ∧ t = t ∧ m1 = m1 ∧ m2 = m2) ∧ n = 0 ∧ FZ f ∧ is = false ∧ t = { data := #[] } ∧ m1 = 0
def PuK6 (n : Int) (f : Nat) (is : Bool) (t : ByteArray) (m1 m2 : Nat) : Prop := (n = n ∧ f = f ∧ is = is ∧ t = t ∧ m1 = m1 ∧ m2 = m2) ∧ n = 0 ∧ FZ f ∧ is = false ∧ t = { data := #[] }
section
variable {w : World} {k n : Int} {f : Nat} {is : Bool} {t : ByteArray} {a1 a2 : Option Addr} {m1 c1 m2 c2 : Nat}
set_option maxRecDepth 100000 in
set_option maxHeartbeats 4000000 in
theorem pur1_c : Calls Tryz.prog 24 #[nodV 1 n f is t a1 m1 c1 a2 m2 c2] w fun e w' => (∃ ok,e = .returned (.bool ok) ∧ (ok = true → PuK1 n f is t m1 m2)) ∧ Below w.heap.size w w' := by
 have hb : ∀ o o2,Below w.heap.size w ((w.alloc o).alloc o2) := fun o o2 => ((Below.refl _ _).alloc (Nat.le_refl _) o).alloc (by rw [World.size_alloc];omega) o2
 have HB := Lib.hid hb;clear hb;unfold nodV;go_enter Tryz.func24,Tryz.ntmps24;by_cases hp : FloatKind.f64.format.order 0 f = some .eq
 case neg =>
  have e1 : (FloatKind.f64.format.order 0 f != some .eq) = true := by rw [bne_iff_ne];exact hp
  go_wp2;go_ret;exact ⟨⟨_,rfl,fun h => by cases h⟩,HB.out _ _⟩
 have e1 : (FloatKind.f64.format.order 0 f != some .eq) = false := by rw [hp];rfl
 cases is
 case true =>
  go_wp2;go_ret;exact ⟨⟨_,rfl,fun h => by cases h⟩,HB.out _ _⟩
 cases ht : t.toList.isEmpty
 case false =>
  go_wp2;go_ret;exact ⟨⟨_,rfl,fun h => by cases h⟩,HB.out _ _⟩
 by_cases hm1 : m1 = 0
 case neg =>
  have em1 : ((m1 : Int) == 0) = false := bqf (by omega);go_wp2;go_ret;exact ⟨⟨_,rfl,fun h => by cases h⟩,HB.out _ _⟩
 have em1 : ((m1 : Int) == 0) = true := beq_iff_eq.2 (by omega);by_cases hm2 : m2 = 0
 case neg =>
  have em2 : ((m2 : Int) == 0) = false := bqf (by omega);go_wp2;go_ret;exact ⟨⟨_,rfl,fun h => by cases h⟩,HB.out _ _⟩
 have em2 : ((m2 : Int) == 0) = true := beq_iff_eq.2 (by omega);go_wp2;go_ret;exact ⟨⟨_,rfl,fun _ => ⟨⟨rfl,rfl,rfl,rfl,rfl,rfl⟩,FZ.of f (by rw [hp];rfl),rfl,text_nil ht,hm1,hm2⟩⟩,HB.out _ _⟩
set_option maxRecDepth 100000 in
set_option maxHeartbeats 4000000 in
theorem pur2_c : Calls Tryz.prog 24 #[nodV 2 n f is t a1 m1 c1 a2 m2 c2] w fun e w' => (∃ ok,e = .returned (.bool ok) ∧ (ok = true → PuK2 n f is t m1 m2)) ∧ Below w.heap.size w w' := by
 have hb : ∀ o o2,Below w.heap.size w ((w.alloc o).alloc o2) := fun o o2 => ((Below.refl _ _).alloc (Nat.le_refl _) o).alloc (by rw [World.size_alloc];omega) o2
 have HB := Lib.hid hb;clear hb;unfold nodV;go_enter Tryz.func24,Tryz.ntmps24;by_cases hn : n = 0
 case neg =>
  have en : ((0 : Int) != n) = true := by rw [bne_iff_ne];exact fun e => hn e.symm
  have en2 : ¬ (0 : Int) = n := fun e => hn e.symm
  go_wp2;go_ret;exact ⟨⟨_,rfl,fun h => by cases h⟩,HB.out _ _⟩
 subst hn;by_cases hp : FloatKind.f64.format.order f f = some .eq
 case neg =>
  have e1 : (FloatKind.f64.format.order f f != some .eq) = true := by rw [bne_iff_ne];exact hp
  go_wp2;go_ret;exact ⟨⟨_,rfl,fun h => by cases h⟩,HB.out _ _⟩
 have e1 : (FloatKind.f64.format.order f f != some .eq) = false := by rw [hp];rfl
 cases is
 case true =>
  go_wp2;go_ret;exact ⟨⟨_,rfl,fun h => by cases h⟩,HB.out _ _⟩
 cases ht : t.toList.isEmpty
 case false =>
  go_wp2;go_ret;exact ⟨⟨_,rfl,fun h => by cases h⟩,HB.out _ _⟩
 by_cases hm1 : m1 = 0
 case neg =>
  have em1 : ((m1 : Int) == 0) = false := bqf (by omega);go_wp2;go_ret;exact ⟨⟨_,rfl,fun h => by cases h⟩,HB.out _ _⟩
 have em1 : ((m1 : Int) == 0) = true := beq_iff_eq.2 (by omega);by_cases hm2 : m2 = 0
 case neg =>
  have em2 : ((m2 : Int) == 0) = false := bqf (by omega);go_wp2;go_ret;exact ⟨⟨_,rfl,fun h => by cases h⟩,HB.out _ _⟩
 have em2 : ((m2 : Int) == 0) = true := beq_iff_eq.2 (by omega);go_wp2;go_ret;exact ⟨⟨_,rfl,fun _ => ⟨⟨rfl,rfl,rfl,rfl,rfl,rfl⟩,rfl,hp,rfl,text_nil ht,hm1,hm2⟩⟩,HB.out _ _⟩
set_option maxRecDepth 100000 in
set_option maxHeartbeats 4000000 in
theorem pur3_c : Calls Tryz.prog 24 #[nodV 3 n f is t a1 m1 c1 a2 m2 c2] w fun e w' => (∃ ok,e = .returned (.bool ok) ∧ (ok = true → PuK3 n f is t m1 m2)) ∧ Below w.heap.size w w' := by
 have hb : ∀ o o2,Below w.heap.size w ((w.alloc o).alloc o2) := fun o o2 => ((Below.refl _ _).alloc (Nat.le_refl _) o).alloc (by rw [World.size_alloc];omega) o2
 have HB := Lib.hid hb;clear hb;unfold nodV;go_enter Tryz.func24,Tryz.ntmps24;by_cases hn : n = 0
 case neg =>
  have en : ((0 : Int) != n) = true := by rw [bne_iff_ne];exact fun e => hn e.symm
  have en2 : ¬ (0 : Int) = n := fun e => hn e.symm
  go_wp2;go_ret;exact ⟨⟨_,rfl,fun h => by cases h⟩,HB.out _ _⟩
 subst hn;by_cases hp : FloatKind.f64.format.order 0 f = some .eq
 case neg =>
  have e1 : (FloatKind.f64.format.order 0 f != some .eq) = true := by rw [bne_iff_ne];exact hp
  go_wp2;go_ret;exact ⟨⟨_,rfl,fun h => by cases h⟩,HB.out _ _⟩
 have e1 : (FloatKind.f64.format.order 0 f != some .eq) = false := by rw [hp];rfl
 cases ht : t.toList.isEmpty
 case false =>
  go_wp2;go_ret;exact ⟨⟨_,rfl,fun h => by cases h⟩,HB.out _ _⟩
 by_cases hm1 : m1 = 0
 case neg =>
  have em1 : ((m1 : Int) == 0) = false := bqf (by omega);go_wp2;go_ret;exact ⟨⟨_,rfl,fun h => by cases h⟩,HB.out _ _⟩
 have em1 : ((m1 : Int) == 0) = true := beq_iff_eq.2 (by omega);by_cases hm2 : m2 = 0
 case neg =>
  have em2 : ((m2 : Int) == 0) = false := bqf (by omega);go_wp2;go_ret;exact ⟨⟨_,rfl,fun h => by cases h⟩,HB.out _ _⟩
 have em2 : ((m2 : Int) == 0) = true := beq_iff_eq.2 (by omega);go_wp2;go_ret;exact ⟨⟨_,rfl,fun _ => ⟨⟨rfl,rfl,rfl,rfl,rfl,rfl⟩,rfl,FZ.of f (by rw [hp];rfl),text_nil ht,hm1,hm2⟩⟩,HB.out _ _⟩
set_option maxRecDepth 100000 in
set_option maxHeartbeats 4000000 in
theorem pur4_c : Calls Tryz.prog 24 #[nodV 4 n f is t a1 m1 c1 a2 m2 c2] w fun e w' => (∃ ok,e = .returned (.bool ok) ∧ (ok = true → PuK4 n f is t m1 m2)) ∧ Below w.heap.size w w' := by
 have hb : ∀ o o2,Below w.heap.size w ((w.alloc o).alloc o2) := fun o o2 => ((Below.refl _ _).alloc (Nat.le_refl _) o).alloc (by rw [World.size_alloc];omega) o2
 have HB := Lib.hid hb;clear hb;unfold nodV;go_enter Tryz.func24,Tryz.ntmps24;by_cases hn : n = 0
 case neg =>
  have en : ((0 : Int) != n) = true := by rw [bne_iff_ne];exact fun e => hn e.symm
  have en2 : ¬ (0 : Int) = n := fun e => hn e.symm
  go_wp2;go_ret;exact ⟨⟨_,rfl,fun h => by cases h⟩,HB.out _ _⟩
 subst hn;by_cases hp : FloatKind.f64.format.order 0 f = some .eq
 case neg =>
  have e1 : (FloatKind.f64.format.order 0 f != some .eq) = true := by rw [bne_iff_ne];exact hp
  go_wp2;go_ret;exact ⟨⟨_,rfl,fun h => by cases h⟩,HB.out _ _⟩
 have e1 : (FloatKind.f64.format.order 0 f != some .eq) = false := by rw [hp];rfl
 cases is
 case true =>
  go_wp2;go_ret;exact ⟨⟨_,rfl,fun h => by cases h⟩,HB.out _ _⟩
 by_cases hm1 : m1 = 0
 case neg =>
  have em1 : ((m1 : Int) == 0) = false := bqf (by omega);go_wp2;go_ret;exact ⟨⟨_,rfl,fun h => by cases h⟩,HB.out _ _⟩
 have em1 : ((m1 : Int) == 0) = true := beq_iff_eq.2 (by omega);by_cases hm2 : m2 = 0
 case neg =>
  have em2 : ((m2 : Int) == 0) = false := bqf (by omega);go_wp2;go_ret;exact ⟨⟨_,rfl,fun h => by cases h⟩,HB.out _ _⟩
 have em2 : ((m2 : Int) == 0) = true := beq_iff_eq.2 (by omega);go_wp2;go_ret;exact ⟨⟨_,rfl,fun _ => ⟨⟨rfl,rfl,rfl,rfl,rfl,rfl⟩,rfl,FZ.of f (by rw [hp];rfl),rfl,hm1,hm2⟩⟩,HB.out _ _⟩
set_option maxRecDepth 100000 in
set_option maxHeartbeats 4000000 in
theorem pur5_c : Calls Tryz.prog 24 #[nodV 5 n f is t a1 m1 c1 a2 m2 c2] w fun e w' => (∃ ok,e = .returned (.bool ok) ∧ (ok = true → PuK5 n f is t m1 m2)) ∧ Below w.heap.size w w' := by
 have hb : ∀ o o2,Below w.heap.size w ((w.alloc o).alloc o2) := fun o o2 => ((Below.refl _ _).alloc (Nat.le_refl _) o).alloc (by rw [World.size_alloc];omega) o2
 have HB := Lib.hid hb;clear hb;unfold nodV;go_enter Tryz.func24,Tryz.ntmps24;by_cases hn : n = 0
 case neg =>
  have en : ((0 : Int) != n) = true := by rw [bne_iff_ne];exact fun e => hn e.symm
  have en2 : ¬ (0 : Int) = n := fun e => hn e.symm
  go_wp2;go_ret;exact ⟨⟨_,rfl,fun h => by cases h⟩,HB.out _ _⟩
 subst hn;by_cases hp : FloatKind.f64.format.order 0 f = some .eq
 case neg =>
  have e1 : (FloatKind.f64.format.order 0 f != some .eq) = true := by rw [bne_iff_ne];exact hp
  go_wp2;go_ret;exact ⟨⟨_,rfl,fun h => by cases h⟩,HB.out _ _⟩
 have e1 : (FloatKind.f64.format.order 0 f != some .eq) = false := by rw [hp];rfl
 cases is
 case true =>
  go_wp2;go_ret;exact ⟨⟨_,rfl,fun h => by cases h⟩,HB.out _ _⟩
 cases ht : t.toList.isEmpty
 case false =>
  go_wp2;go_ret;exact ⟨⟨_,rfl,fun h => by cases h⟩,HB.out _ _⟩
 by_cases hm1 : m1 = 0
 case neg =>
  have em1 : ((m1 : Int) == 0) = false := bqf (by omega);go_wp2;go_ret;exact ⟨⟨_,rfl,fun h => by cases h⟩,HB.out _ _⟩
 have em1 : ((m1 : Int) == 0) = true := beq_iff_eq.2 (by omega);go_wp2;go_ret;exact ⟨⟨_,rfl,fun _ => ⟨⟨rfl,rfl,rfl,rfl,rfl,rfl⟩,rfl,FZ.of f (by rw [hp];rfl),rfl,text_nil ht,hm1⟩⟩,HB.out _ _⟩
set_option maxRecDepth 100000 in
set_option maxHeartbeats 4000000 in
theorem pur6_c : Calls Tryz.prog 24 #[nodV 6 n f is t a1 m1 c1 a2 m2 c2] w fun e w' => (∃ ok,e = .returned (.bool ok) ∧ (ok = true → PuK6 n f is t m1 m2)) ∧ Below w.heap.size w w' := by
 have hb : ∀ o o2,Below w.heap.size w ((w.alloc o).alloc o2) := fun o o2 => ((Below.refl _ _).alloc (Nat.le_refl _) o).alloc (by rw [World.size_alloc];omega) o2
 have HB := Lib.hid hb;clear hb;unfold nodV;go_enter Tryz.func24,Tryz.ntmps24;by_cases hn : n = 0
 case neg =>
  have en : ((0 : Int) != n) = true := by rw [bne_iff_ne];exact fun e => hn e.symm
  have en2 : ¬ (0 : Int) = n := fun e => hn e.symm
  go_wp2;go_ret;exact ⟨⟨_,rfl,fun h => by cases h⟩,HB.out _ _⟩
 subst hn;by_cases hp : FloatKind.f64.format.order 0 f = some .eq
 case neg =>
  have e1 : (FloatKind.f64.format.order 0 f != some .eq) = true := by rw [bne_iff_ne];exact hp
  go_wp2;go_ret;exact ⟨⟨_,rfl,fun h => by cases h⟩,HB.out _ _⟩
 have e1 : (FloatKind.f64.format.order 0 f != some .eq) = false := by rw [hp];rfl
 cases is
 case true =>
  go_wp2;go_ret;exact ⟨⟨_,rfl,fun h => by cases h⟩,HB.out _ _⟩
 cases ht : t.toList.isEmpty
 case false =>
  go_wp2;go_ret;exact ⟨⟨_,rfl,fun h => by cases h⟩,HB.out _ _⟩
 go_wp2;go_ret;exact ⟨⟨_,rfl,fun _ => ⟨⟨rfl,rfl,rfl,rfl,rfl,rfl⟩,rfl,FZ.of f (by rw [hp];rfl),rfl,text_nil ht⟩⟩,HB.out _ _⟩
set_option maxRecDepth 100000 in
set_option maxHeartbeats 4000000 in
theorem purX_c (h1 : k ≠ 1) (h2 : k ≠ 2) (h3 : k ≠ 3) (h4 : k ≠ 4) (h5 : k ≠ 5) (h6 : k ≠ 6) : Calls Tryz.prog 24 #[nodV k n f is t a1 m1 c1 a2 m2 c2] w fun e w' => e = .returned (.bool false) ∧ Below w.heap.size w w' := by
 have hb : ∀ o o2,Below w.heap.size w ((w.alloc o).alloc o2) := fun o o2 => ((Below.refl _ _).alloc (Nat.le_refl _) o).alloc (by rw [World.size_alloc];omega) o2
 have HB := Lib.hid hb;have b1 : (k == 1) = false := bqf h1;have b2 : (k == 2) = false := bqf h2;have b3 : (k == 3) = false := bqf h3;have b4 : (k == 4) = false := bqf h4;have b5 : (k == 5) = false := bqf h5;have b6 : (k == 6) = false := bqf h6;clear hb;unfold nodV;go_enter Tryz.func24,Tryz.ntmps24;go_wp2;go_ret;exact ⟨rfl,HB.out _ _⟩
end
end Go.Cf
namespace Go.Cf
open Go.RowKit Go.Conc Go.Proofs
abbrev L0 : Lab := fun _ => 0
section
variable {lab lab2 : Lab} {w0 w w2 : World} {s9 gl cl : Nat} {X Y : Array Value} {t0 : Array Value} {L : Array Bool} {a : Act}
end
attribute [local go_sem] run_store_flt
section
variable {w w1 : World} {k n : Int} {f : Nat} {is : Bool} {t : ByteArray} {a1 a2 : Option Addr} {m1 c1 m2 c2 : Nat}
def PuAny (k n : Int) (f : Nat) (is : Bool) (t : ByteArray) (m1 m2 : Nat) : Prop :=
 (k = 1 ∧ PuK1 n f is t m1 m2) ∨ (k = 2 ∧ PuK2 n f is t m1 m2) ∨ (k = 3 ∧ PuK3 n f is t m1 m2) ∨ (k = 4 ∧ PuK4 n f is t m1 m2) ∨ (k = 5 ∧ PuK5 n f is t m1 m2) ∨ (k = 6 ∧ PuK6 n f is t m1 m2)
theorem pure_c : Calls Tryz.prog 24 #[nodV k n f is t a1 m1 c1 a2 m2 c2] w fun e w' => (∃ ok,e = .returned (.bool ok) ∧ (ok = true → PuAny k n f is t m1 m2)) ∧ Below w.heap.size w w' := by
 by_cases h1 : k = 1
 ·subst h1;exact pur1_c.mono fun e w' ⟨⟨ok,h,hk⟩,hb⟩ => ⟨⟨ok,h,fun e => .inl ⟨rfl,hk e⟩⟩,hb⟩
 by_cases h2 : k = 2
 ·subst h2;exact pur2_c.mono fun e w' ⟨⟨ok,h,hk⟩,hb⟩ => ⟨⟨ok,h,fun e => .inr (.inl ⟨rfl,hk e⟩)⟩,hb⟩
 by_cases h3 : k = 3
 ·subst h3;exact pur3_c.mono fun e w' ⟨⟨ok,h,hk⟩,hb⟩ => ⟨⟨ok,h,fun e => .inr (.inr (.inl ⟨rfl,hk e⟩))⟩,hb⟩
 by_cases h4 : k = 4
 ·subst h4;exact pur4_c.mono fun e w' ⟨⟨ok,h,hk⟩,hb⟩ => ⟨⟨ok,h,fun e => .inr (.inr (.inr (.inl ⟨rfl,hk e⟩)))⟩,hb⟩
 by_cases h5 : k = 5
 ·subst h5;exact pur5_c.mono fun e w' ⟨⟨ok,h,hk⟩,hb⟩ => ⟨⟨ok,h,fun e => .inr (.inr (.inr (.inr (.inl ⟨rfl,hk e⟩))))⟩,hb⟩
 by_cases h6 : k = 6
 ·subst h6;exact pur6_c.mono fun e w' ⟨⟨ok,h,hk⟩,hb⟩ => ⟨⟨ok,h,fun e => .inr (.inr (.inr (.inr (.inr ⟨rfl,hk e⟩))))⟩,hb⟩
 exact (purX_c h1 h2 h3 h4 h5 h6).mono fun e w' ⟨h,hb⟩ => ⟨⟨_,h,fun e => by cases e⟩,hb⟩
def TreeOk (w : World) (d : Nat) (c : Array Value) : Prop := ∃ j,NdV 0 L0 w j c ∧ JT d j
def Elems (w : World) (d : Nat) (a : Option Addr) (m : Nat) : Prop := ∀ q,q < m → ∃ (ad : Addr) (c : Array Value),a = some ad ∧ cell7 w ad q c ∧ TreeOk w d c
def KeysOk (w : World) (a : Option Addr) (m : Nat) : Prop := ∀ q,q < m → ∃ (ad : Addr) (s : ByteArray),a = some ad ∧ w.cell? (ad.add q) = some (.string s) ∧ s.size ≤ 20
theorem pick_list {α : Type} {p : Nat → α → Prop} : ∀ m : Nat,(∀ q,q < m → ∃ x,p q x) → ∃ l : List α,l.length = m ∧ ∀ q x,l[q]? = some x → p q x
 | 0,_ => ⟨[],rfl,fun q x h => by simp at h⟩
 | m + 1,h => by
  obtain ⟨l,hl,hp⟩ := pick_list m (fun q hq => h q (by omega));obtain ⟨x,hx⟩ := h m (by omega);refine ⟨l ++ [x],by simp [hl],fun q y hy => ?_⟩;rcases Nat.lt_trichotomy q m with hq | hq | hq
  ·rw [List.getElem?_append_left (by omega)] at hy;exact hp q y hy
  ·subst hq;rw [List.getElem?_append_right (by omega),hl,Nat.sub_self] at hy;simp only [List.getElem?_cons_zero,Option.some.injEq] at hy;subst hy;exact hx
  ·rw [List.getElem?_eq_none (by simp;omega)] at hy
   cases hy
theorem elems_list {d m : Nat} (h : Elems w d a2 m) : ∃ l : List JV,l.length = m ∧ NdVs 0 L0 w a2 0 l ∧ ∀ j ∈ l,JT d j := by
 obtain ⟨l,hl,hp⟩ := pick_list (p := fun q j => ∃ (ad : Addr) (c : Array Value),a2 = some ad ∧ cell7 w ad q c ∧ NdV 0 L0 w j c ∧ JT d j) m (fun q hq => by
  obtain ⟨ad,c,h1,h2,j,h3,h4⟩ := h q hq;exact ⟨j,ad,c,h1,h2,h3,h4⟩)
 refine ⟨l,hl,NdVs.of fun q j hq => ?_,fun j hj => ?_⟩
 ·obtain ⟨ad,c,h1,h2,h3,h4⟩ := hp q j hq;exact ⟨ad,c,h1,rfl,by rw [Nat.zero_add];exact h2,h3⟩
 ·obtain ⟨i,hi,rfl⟩ := List.getElem_of_mem hj;obtain ⟨ad,c,h1,h2,h3,h4⟩ := hp i l[i] (List.getElem?_eq_getElem hi);exact h4
theorem keys_list {m : Nat} (h : KeysOk w a1 m) : ∃ ks : List ByteArray,ks.length = m ∧ KsIn 0 L0 w a1 ks ∧ ∀ k ∈ ks,k.size ≤ 20 := by
 obtain ⟨l,hl,hp⟩ := pick_list (p := fun q (s : ByteArray) => ∃ (ad : Addr),a1 = some ad ∧ w.cell? (ad.add q) = some (.string s) ∧ s.size ≤ 20) m (fun q hq => by
  obtain ⟨ad,s,h1,h2,h3⟩ := h q hq;exact ⟨s,ad,h1,h2,h3⟩)
 refine ⟨l,hl,fun q k hq => ?_,fun k hk => ?_⟩
 ·obtain ⟨ad,h1,h2,h3⟩ := hp q k hq;exact ⟨ad,h1,rfl,h2⟩
 ·obtain ⟨i,hi,rfl⟩ := List.getElem_of_mem hk;obtain ⟨ad,h1,h2,h3⟩ := hp i l[i] (List.getElem?_eq_getElem hi);exact h3
theorem tree_done {d : Nat} (hp : PuAny k n f is t m1 m2) (hn : -9223372036854775808 ≤ n ∧ n ≤ 9223372036854775807) (h1 : m1 ≤ 8) (h2 : m2 ≤ 8) (ht : t.size ≤ 60) (hk : KeysOk w a1 m1) (he : Elems w d a2 m2) : TreeOk w (d + 1) (ndC k n f is t (.slice a1 m1 c1) (.slice a2 m2 c2)) := by
 rcases hp with ⟨rfl,_,q1,q2,q3,q4,q5⟩ | ⟨rfl,_,q1,q2,q3,q4,q5,q6⟩ | ⟨rfl,_,q1,q2,q3,q4,q5⟩ | ⟨rfl,_,q1,q2,q3,q4,q5⟩ | ⟨rfl,_,q1,q2,q3,q4,q5⟩ | ⟨rfl,_,q1,q2,q3,q4⟩
 ·subst q2 q3 q4 q5;exact ⟨.int n,by simp only [NdV];exact ⟨_,_,_,_,_,q1,rfl⟩,by simp only [JT];exact hn⟩
 ·subst q1 q3 q4 q5 q6;exact ⟨.num f,by simp only [NdV];exact ⟨_,_,_,_,rfl⟩,by simp only [JT];exact q2⟩
 ·subst q1 q3 q4 q5;exact ⟨.tr is,by simp only [NdV];exact ⟨_,_,_,_,_,q2,rfl⟩,by simp only [JT]⟩
 ·subst q1 q3 q4 q5;exact ⟨.txt t,by simp only [NdV];exact ⟨_,_,_,_,_,q2,rfl⟩,by simp only [JT];exact ht⟩
 ·subst q1 q3 q4 q5;obtain ⟨l,hl,hl2,hl3⟩ := elems_list he;subst hl;exact ⟨.arr l,by simp only [NdV];exact ⟨_,_,_,_,_,q2,rfl,hl2⟩,by simp only [JT];exact ⟨h2,hl3⟩⟩
 ·subst q1 q3 q4;obtain ⟨l,hl,hl2,hl3⟩ := elems_list he;obtain ⟨ks,hk1,hk2,hk3⟩ := keys_list hk;subst hl hk1;exact ⟨.map ks l,by simp only [NdV];exact ⟨_,_,_,_,_,q2,rfl,hk2,hl2⟩,by simp only [JT];exact ⟨h1,h2,hk3,hl3⟩⟩
theorem TreeOk.below {d : Nat} {c : Array Value} (h : TreeOk w d c) (b : Below w.heap.size w w1) : TreeOk w1 d c := by
 obtain ⟨j,h1,h2⟩ := h;exact ⟨j,NdV.mv (M := fun _ => False) ⟨b.os,b.tape,b.output,b.size,fun k hk _ => b.block k hk,fun _ _ _ => rfl⟩ (fun h => h) j h1,h2⟩
theorem KeysOk.below {m : Nat} (h : KeysOk w a1 m) (b : Below w.heap.size w w1) : KeysOk w1 a1 m := fun q hq => by
 obtain ⟨ad,s,h1,h2,h3⟩ := h q hq;exact ⟨ad,s,h1,b.cellB h2,h3⟩
def RetB (e : Ending) (C : Prop) : Prop := ∃ ok,e = .returned (.bool ok) ∧ (ok = true → C)
theorem RetB.no {C : Prop} : RetB (.returned (.bool false)) C := ⟨_,rfl,fun h => by cases h⟩
theorem RetB.yes {C : Prop} (h : C) : RetB (.returned (.bool true)) C := ⟨_,rfl,fun _ => h⟩
theorem add7 (a : Addr) (i q : Nat) (hq : 0 < q) : a.add (i + q) = ⟨(a.add i).block,(a.add i).off + q,none⟩ := by
 unfold Addr.add;rw [if_neg (by omega)]
 split
 ·rename_i h;subst h;simp
 ·simp [Nat.add_assoc]
theorem cell7.facts {ad : Addr} {i : Nat} {kv lv : Value} (h : cell7 w ad i (ndC k n f is t kv lv)) : w.cell? (ad.add (i * 7)) = some (.int .i64 k) ∧ w.cell? ⟨(ad.add (i * 7)).block,(ad.add (i * 7)).off + 1,none⟩ = some (.int .i64 n) ∧ w.cell? ⟨(ad.add (i * 7)).block,(ad.add (i * 7)).off + 2,none⟩ = some (.float .f64 f) ∧
  w.cell? ⟨(ad.add (i * 7)).block,(ad.add (i * 7)).off + 3,none⟩ = some (.bool is) ∧ w.cell? ⟨(ad.add (i * 7)).block,(ad.add (i * 7)).off + 4,none⟩ = some (.string t) ∧ w.cell? ⟨(ad.add (i * 7)).block,(ad.add (i * 7)).off + 5,none⟩ = some kv ∧ w.cell? ⟨(ad.add (i * 7)).block,(ad.add (i * 7)).off + 6,none⟩ = some lv := by
 refine ⟨h 0 (by decide),?_,?_,?_,?_,?_,?_⟩
 ·rw [← add7 _ _ _ (by decide)];exact h 1 (by decide)
 ·rw [← add7 _ _ _ (by decide)];exact h 2 (by decide)
 ·rw [← add7 _ _ _ (by decide)];exact h 3 (by decide)
 ·rw [← add7 _ _ _ (by decide)];exact h 4 (by decide)
 ·rw [← add7 _ _ _ (by decide)];exact h 5 (by decide)
 ·rw [← add7 _ _ _ (by decide)];exact h 6 (by decide)
theorem cell7.mv {M : Nat → Prop} {lab lab1 : Lab} {ad : Addr} {i : Nat} {kv lv : Value} (h : cell7 w ad i (ndC k n f is t kv lv)) (m : Mv M w lab w1 lab1) (hl : ¬ M (lab ad.block)) : cell7 w1 ad i (ndC k n f is t kv lv) := fun q hq => by
 obtain ⟨v,hv⟩ := ndC_some (k := k) (n := n) (f := f) (b := is) (s := t) (kv := kv) (lv := lv) q hq;have h1 := h q hq;rw [hv] at h1 ⊢;exact cell_mv m (by rw [add_block];exact hl) h1
theorem cell7.below {ad : Addr} {i : Nat} {kv lv : Value} (h : cell7 w ad i (ndC k n f is t kv lv)) (b : Below w.heap.size w w1) : cell7 w1 ad i (ndC k n f is t kv lv) := fun q hq => by
 obtain ⟨v,hv⟩ := ndC_some (k := k) (n := n) (f := f) (b := is) (s := t) (kv := kv) (lv := lv) q hq;have h1 := h q hq;rw [hv] at h1 ⊢;exact b.cellB h1
theorem Elems.below {d m : Nat} (h : Elems w d a2 m) (b : Below w.heap.size w w1) : Elems w1 d a2 m := fun q hq => by
 obtain ⟨ad,c,h1,h2,h3⟩ := h q hq;obtain ⟨j,h4,_⟩ := id h3;obtain ⟨_,_,_,_,_,_,_,_,_,_,_,rfl⟩ := h4.shape;exact ⟨ad,_,h1,cell7.below h2 b,h3.below b⟩
def TreeC (d : Nat) : Prop := ∀ (w : World) (c : Array Value),NdR w d c → Calls Tryz.prog 12 #[.agg c,.int .i64 d] w fun e w' => RetB e (TreeOk w' d c) ∧ Below w.heap.size w w'
set_option maxRecDepth 100000 in
set_option maxHeartbeats 4000000 in
theorem tree_zero : TreeC 0 := by
 intro w c h;unfold NdR at h;obtain ⟨k,n,f,is,t,a1,m1,c1,a2,m2,c2,rfl,-,-,-,-,-,-,-⟩ := h;have hb : ∀ o,Below w.heap.size w (w.alloc o) := fun o => (Below.refl _ _).alloc (Nat.le_refl _) o
 have HB := Lib.hid hb;clear hb;unfold ndC;go_enter Tryz.func12,Tryz.ntmps12;go_wp2;go_ret;exact ⟨RetB.no,HB.out _⟩
set_option maxRecDepth 100000 in
set_option maxHeartbeats 4000000 in
theorem tree_succ (d : Nat) (hd : d ≤ 10) (ih : TreeC d) : TreeC (d + 1) := by
 intro w c h;unfold NdR at h;obtain ⟨k,n,f,is,t,a1,m1,c1,a2,m2,c2,rfl,n0,n1,ht,h1,h2,hk,hr⟩ := h;have hb : ∀ o,Below w.heap.size w (w.alloc o) := fun o => (Below.refl _ _).alloc (Nat.le_refl _) o
 have hp := fun w => pure_c (w := w) (k := k) (n := n) (f := f) (is := is) (t := t) (a1 := a1) (m1 := m1) (c1 := c1) (a2 := a2) (m2 := m2) (c2 := c2)
 have h1x : (m1 : Int) ≤ 9223372036854775807 := by unfold maxLen at h1;omega
 have h2x : (m2 : Int) ≤ 9223372036854775807 := by unfold maxLen at h2;omega
 have htx : (t.size : Int) ≤ 9223372036854775807 := by unfold maxLen at ht;omega
 have HB := Lib.hid hb;have HP := Lib.hid hp;have HK := Lib.hid hk;have HR := Lib.hid hr;have HN := Lib.hid (aI n0 n1);have HI := Lib.hid ih;have e0 : ((d : Int) + 1 == 0) = false := bqf (by omega);clear hb hp hk hr n0 n1 ih;unfold ndC nodV at *;go_enter Tryz.func12,Tryz.ntmps12;by_cases d2 : m2 ≤ 8
 case neg =>
  have e2 : decide ((8 : Int) < (m2 : Int)) = true := decide_eq_true (by omega);go_wp2;go_ret;exact ⟨RetB.no,HB.out _⟩
 have e2 : decide ((8 : Int) < (m2 : Int)) = false := decide_eq_false (by omega);by_cases d1 : m1 ≤ 8
 case neg =>
  have e1 : decide ((8 : Int) < (m1 : Int)) = true := decide_eq_true (by omega);go_wp2;go_ret;exact ⟨RetB.no,HB.out _⟩
 have e1 : decide ((8 : Int) < (m1 : Int)) = false := decide_eq_false (by omega);by_cases d3 : t.size ≤ 60
 case neg =>
  have e3 : decide ((60 : Int) < (t.size : Int)) = true := decide_eq_true (by omega);go_wp2;go_ret;exact ⟨RetB.no,HB.out _⟩
 have e3 : decide ((60 : Int) < (t.size : Int)) = false := decide_eq_false (by omega);go_wp2_with fail;refine (HP.out _).mono ?_;rintro e w1 ⟨⟨ok,rfl,hok⟩,hb1⟩
 cases ok with
 | false =>
  have HX := Lib.hid ((HB.out _).trans (hb1.mono (by rw [World.size_alloc];omega)));clear hb1;go_wp2;go_ret;exact ⟨RetB.no,HX.out⟩
 | true =>
  have hpo := hok rfl;have hbx : w1.heap[w.heap.size]? = some (.cells #[.int .i64 k,.int .i64 n,.float .f64 f,.bool is,.string t,.slice a1 m1 c1,.slice a2 m2 c2] 26 (0,0)) := by
   rw [hb1.block w.heap.size (by rw [World.size_alloc];omega)];exact heap_alloc_new w _
  have q5 : w1.cell? ⟨w.heap.size,5,none⟩ = some (.slice a1 m1 c1) := (blk_cell hbx 5);have hX := ((HB.out _).trans (hb1.mono (by rw [World.size_alloc];omega)));have HX := Lib.hid hX;have HK1 := Lib.hid (HK.out.below hX);have HPO := Lib.hid hpo;have HBX := Lib.hid hbx;clear hb1 hbx hok hpo hX;go_wp2;go_loopw [5] (fun i wr => ∃ j : Nat,i = .int .i64 j ∧ j ≤ m1 ∧ wr = w1 ∧ KeysOk w1 a1 j) (fun i _ => m1 - (RowKit.intOf i).toNat)
  case atStart => exact ⟨0,rfl,Nat.zero_le _,rfl,fun q hq => by omega⟩
  case round =>
   obtain ⟨j,rfl,hj,hwr,hks⟩ := hrel;have hwr' := hwr.symm;clear hwr;subst hwr';by_cases hjm : j < m1
   ·have hj1 : (j : Int) < (m1 : Int) := by omega
    have hj0 : (0 : Int) ≤ (j : Int) := Int.natCast_nonneg _;rcases HK1.out with h0 | ⟨ad,rfl,hkk⟩
    ·omega
    obtain ⟨s,hs,hss⟩ := hkk j hjm;by_cases hs20 : s.size ≤ 20
    ·have d4 : decide ((20 : Int) < (s.size : Int)) = false := decide_eq_false (by omega);have hks' : KeysOk w1 (some ad) (j + 1) := fun q hq => by
      rcases Nat.lt_or_ge q j with h | h
      ·exact hks q h
      ·exact ⟨ad,s,rfl,by rw [show q = j from by omega];exact hs,hs20⟩
     have HKS := Lib.hid hks';clear hks hks' hkk;go_wp2;go_roundw
     case rel => exact ⟨j + 1,by go_num,by omega,trivial,HKS.out⟩
     case measure => simp [RowKit.intOf];omega
    ·have d4 : decide ((20 : Int) < (s.size : Int)) = true := decide_eq_true (by omega);clear hks hkk;go_wp2;go_ret;exact ⟨RetB.no,HX.out⟩
   ·have hjm1 : ¬ ((j : Int) < (m1 : Int)) := by omega
    obtain rfl : j = m1 := by omega
    have HKS := Lib.hid hks;clear hks;have hlw : w.heap.size < w1.heap.size := lt_of_block HBX.out;go_wp2;go_loopw [6] (fun i wr => ∃ j : Nat,i = .int .i64 j ∧ j ≤ m2 ∧ Below w1.heap.size w1 wr ∧ Elems wr d a2 j) (fun i _ => m2 - (RowKit.intOf i).toNat)
    case atStart => exact ⟨0,rfl,Nat.zero_le _,Below.refl _ _,fun q hq => by omega⟩
    case round =>
     obtain ⟨i,rfl,hi,hbw,hel⟩ := hrel;have q6 : wr.cell? ⟨w.heap.size,6,none⟩ = some (.slice a2 m2 c2) := hbw.cellB (blk_cell HBX.out 6);have hXw := HX.out.trans (hbw.mono (Nat.le_of_lt hlw));by_cases him : i < m2
     ·have hi1 : (i : Int) < (m2 : Int) := by omega
      have hi0 : (0 : Int) ≤ (i : Int) := Int.natCast_nonneg _;obtain ⟨ad,c',rfl,hc7,hrd⟩ := HR.out i him;obtain ⟨k',n',f',is',t',a1',m1',c1',a2',m2',c2',rfl⟩ : ∃ (k n : Int) (f : Nat) (is : Bool) (t : ByteArray) (a1 : Option Addr) (m1 c1 : Nat) (a2 : Option Addr) (m2 c2 : Nat),c' = ndC k n f is t (.slice a1 m1 c1) (.slice a2 m2 c2) := by
       unfold NdR at hrd;obtain ⟨k,n,f,is,t,a1,m1,c1,a2,m2,c2,h,_⟩ := hrd;exact ⟨_,_,_,_,_,_,_,_,_,_,_,h⟩
      have hc8 := hc7.below hXw;obtain ⟨r0,r1,r2,r3,r4,r5,r6⟩ := hc8.facts;have hcall := HI.out wr _ (hrd.below hXw);unfold ndC at hcall;have HC := Lib.hid hcall;have HW := Lib.hid (aI hbw (aI hel hc8));clear hcall hbw hel hc7 hc8 hrd HP;have hsub : ((d : Int) + 1 - 1) = d := by omega
      go_wp2_with fail
      refine HC.out.mono ?_;rintro e w2 ⟨⟨ok,rfl,hok⟩,hb2⟩
      cases ok with
      | false =>
       have HX2 := Lib.hid (hXw.trans (hb2.mono hXw.size));clear hb2 hXw r0 r1 r2 r3 r4 r5 r6;go_wp2;go_ret;exact ⟨RetB.no,HX2.out⟩
      | true =>
       have hel2 : Elems w2 d (some ad) (i + 1) := fun q hq => by
        rcases Nat.lt_or_ge q i with h | h
        ·exact HW.out.2.1.below hb2 q h
        ·exact ⟨ad,_,rfl,by rw [show q = i from by omega];exact HW.out.2.2.below hb2,hok rfl⟩
       have HE := Lib.hid (aI hel2 (HW.out.1.trans (hb2.mono HW.out.1.size)));clear hb2 hXw r0 r1 r2 r3 r4 r5 r6 hel2;go_wp2;go_roundw
       case rel => exact ⟨i + 1,by go_num,by omega,HE.out.2,HE.out.1⟩
       case measure => simp [RowKit.intOf];omega
     ·have him1 : ¬ ((i : Int) < (m2 : Int)) := by omega
      obtain rfl : i = m2 := by omega
      have hfin := tree_done (c1 := c1) (c2 := c2) HPO.out HN.out d1 d2 d3 (HKS.out.below hbw) hel;have HF := Lib.hid (aI hfin hXw);clear hfin hXw hbw hel;go_wp2;go_ret;exact ⟨RetB.yes HF.out.1,HF.out.2⟩
theorem tree_c : ∀ d : Nat,d ≤ 10 → TreeC d
 | 0,_ => tree_zero
 | d + 1,h => tree_succ d (by omega) (tree_c d (by omega))
end
end Go.Cf
namespace Go.Cf
open Go.RowKit Go.Conc Go.Proofs
section
variable {k n : Int} {f : Nat} {is : Bool} {t : ByteArray} {a1 a2 : Option Addr} {c1 c2 : Nat}
theorem app_none (a : Option Addr) (c : Nat) (w : World) : (Builtin.append_ #[23,23] 23 #[.slice none 0 0,.slice a 0 c]).run Tryz.prog w = .ok (.slice none 0 0) w := by
 cases a <;> simp [Builtin.append_,go_sem]
attribute [local go_sem ↓] appX_eq
end
end Go.Cf
namespace Go.Cf
open Go.RowKit Go.Conc Go.Proofs
section
variable {P : Program} {Q : Exit → Act → World → Prop}
theorem getD_set2 (L : Array Bool) (i j : Nat) (hi : i < L.size) : (L.setIfInBounds i true).getD j false = if j = i then true else L.getD j false := by
 rw [gdg,gdg];by_cases h : j = i
 ·subst h;rw [if_pos rfl,Array.getElem?_setIfInBounds_self_of_lt hi];rfl
 ·rw [if_neg h,Array.getElem?_setIfInBounds_ne (fun e => h e.symm)]
end
attribute [local go_sem ↓] appX_eq
attribute [local go_sem] run_store_flt
section
variable {lab lab1 : Lab} {w w1 : World} {b : Nat} {W W1 W2 : CW} {T T2 : ByteArray} {k n : Int} {f : Nat} {is : Bool} {t : ByteArray} {a1 a2 : Option Addr} {c1 c2 : Nat} {j : JV} {gk gl : Nat}
def wr0 (sv : Value) : Array Value := #[.string ⟨#[]⟩,.int .i64 1,sv,.bool false,.slice none 0 0,.slice none 0 0,.slice none 0 0,.slice none 0 0]
def W0 (style : List UInt8) : CW := { text := ⟨#[]⟩,line := 1,style := style,bad := false,known := [],nv := 0,vals := [],used := [],inner := [] }
theorem results_tct {P : Program} {fn : Func} {t p u : Tmp} {ty : TypeId} {tmps : Array Value} {W : World} {a : Addr} {v : Value} (h : fn.results = #[.tmp t,.cell p ty,.tmp u]) (hp : tmps.getD p undef = .pointer (some a)) (hl : (loadVar ty a).run P W = .ok v W) : (results fn tmps).run P W = .ok (.tuple #[tmps.getD t undef,v,tmps.getD u undef]) W := by
 rw [gdg] at hp;simp only [results,h];simp [asAddr,Result.andThen,hp,hl]
theorem pick_bad (W : CW) (n : Nat) : (W.pick n).2.bad = W.bad := by
 unfold CW.pick
 split <;> rfl
theorem Rw.none (lab : Lab) (w : World) (ℓ e size : Nat) : Rw 0 ℓ lab w e size (.slice none 0 0) 0 [] := ⟨⟨by simp,.inl ⟨rfl,rfl⟩⟩,fun k hk => by cases hk⟩
end
end Go.Cf
namespace Go.Cf
open Go.RowKit Go.Conc Go.Proofs
attribute [local go_sem] run_store_flt
section
variable {ℓ ℓ2 : Nat} {M : Nat → Prop} {lab lab1 : Lab} {w w1 : World} {j : JV} {c : Array Value}
set_option maxRecDepth 100000 in
set_option maxHeartbeats 4000000 in
theorem clean_c (h : NdV ℓ lab w j c) (wx : World) : Calls Tryz.prog 25 #[.agg c] wx fun e w' => e = .returned (.bool true) ∧ Below wx.heap.size wx w' := by
 have hb : ∀ o,Below wx.heap.size wx (wx.alloc o) := fun o => (Below.refl _ _).alloc (Nat.le_refl _) o
 have HB := Lib.hid hb;clear hb
 cases j with
 | int n =>
  simp only [NdV] at h;obtain ⟨f,a1,c1,a2,c2,hf,rfl⟩ := h;have e1 := hf.1;unfold ndC;go_enter Tryz.func25,Tryz.ntmps25;go_wp2;go_ret;exact ⟨rfl,HB.out _⟩
 | num f =>
  simp only [NdV] at h;obtain ⟨a1,c1,a2,c2,rfl⟩ := h;unfold ndC;go_enter Tryz.func25,Tryz.ntmps25;go_wp2;go_ret;exact ⟨rfl,HB.out _⟩
 | tr b =>
  simp only [NdV] at h;obtain ⟨f,a1,c1,a2,c2,hf,rfl⟩ := h;have e1 := hf.1;unfold ndC;go_enter Tryz.func25,Tryz.ntmps25;go_wp2;go_ret;exact ⟨rfl,HB.out _⟩
 | txt t =>
  simp only [NdV] at h;obtain ⟨f,a1,c1,a2,c2,hf,rfl⟩ := h;have e1 := hf.1;unfold ndC;go_enter Tryz.func25,Tryz.ntmps25;go_wp2;go_ret;exact ⟨rfl,HB.out _⟩
 | arr l =>
  simp only [NdV] at h;obtain ⟨f,a1,c1,a2,c2,hf,rfl,_⟩ := h;have e1 := hf.1;unfold ndC;go_enter Tryz.func25,Tryz.ntmps25;go_wp2;go_ret;exact ⟨rfl,HB.out _⟩
 | map ks l =>
  simp only [NdV] at h;obtain ⟨f,a1,c1,a2,c2,hf,rfl,_⟩ := h;have e1 := hf.1;unfold ndC;go_enter Tryz.func25,Tryz.ntmps25;go_wp2;go_ret;exact ⟨rfl,HB.out _⟩
theorem app_nil2 (g n cap : Nat) (hn : n ≤ cap) (c : Nat) (w : World) : (Builtin.append_ #[23,23] 23 #[.slice (some ⟨g,0,none⟩) n cap,.slice none 0 c]).run Tryz.prog w = .ok (.slice (some ⟨g,0,none⟩) n cap) w := by
 have h1 : ¬ cap < n := by omega
 simp [Builtin.append_,go_sem,h1]
def NewsIn (w : World) (a : Option Addr) (news : List ByteArray) : Prop := ∀ i k,news[i]? = some k → ∃ ad : Addr,a = some ad ∧ w.cell? (ad.add i) = some (.string k)
theorem app_str {v : Value} {n : Nat} {xs : List Value} {a : Option Addr} {c : Nat} {news : List ByteArray} (hr : Rw 0 ℓ lab w 9 1 v n xs) (hn : NewsIn w a news) (hmax : n + news.length ≤ 100000000) :
  ∃ v' w',(AppX #[23,23] 23 #[v,.slice a news.length c]).run Tryz.prog w = .ok v' w' ∧ Rw 0 ℓ (lab.ext w.heap.size ℓ) w' 9 1 v' (n + news.length) (xs ++ news.map .string) ∧ w.grownBy w' v.ownBlock ∧ (v'.ownBlock = v.ownBlock ∨ v'.ownBlock = some w.heap.size) ∧ ∃ A C,v' = .slice A (n + news.length) C := by
 have hown := hr.1;obtain ⟨i0,hi0,hz0,hz1,hz2⟩ := info_parts info9
 cases a with
 | some ad =>
  obtain ⟨v',w',hrun,ho,hg,_,hat⟩ := run_append_own_at (P := Tryz.prog) w 0 23 23 9 i0 _ 1 16 Tryz.underlying23 hi0 hz0 hz1 hz2 rfl (by omega) v n xs hown ad news.length c (news.map .string) (by simp) (fun j u hu => by
   rw [List.getElem?_map,Option.map_eq_some_iff] at hu;obtain ⟨k,hk,rfl⟩ := hu;obtain ⟨ad',e,hc⟩ := hn j k hk;cases e
   exact hc) (fun u hu => by
   obtain ⟨k,_,rfl⟩ := List.mem_map.1 hu
   rfl) (by unfold maxLen;omega) (by omega) (Nat.zero_le _)
  rw [appX_eq] at hrun;exact ⟨v',w',hrun,hr.appended ho hg (by rcases hat with h | h;exact .inl h;exact .inr ⟨_,h,Nat.le_refl _⟩),hg,hat,own_slice ho⟩
 | none =>
  cases news with
  | cons k r =>
   obtain ⟨ad,e,_⟩ := hn 0 k rfl;cases e
  | nil =>
   have m0 : Mv (fun _ => False) w lab w (lab.ext w.heap.size ℓ) := ⟨rfl,rfl,rfl,Nat.le_refl _,fun _ _ _ => rfl,fun k hk _ => Lab.ext_lt hk⟩;have hr2 := hr.mv m0 (fun h => h);have hg : w.grownBy w v.ownBlock := ⟨rfl,rfl,rfl,Nat.le_refl _,fun _ _ _ => rfl⟩;obtain ⟨_,⟨h0,hn0⟩ | ⟨g,cap,cur,hv,_,_,hnc,_⟩⟩ := id hown
   ·subst h0;have hrun := app_none none c w;rw [appX_eq] at hrun;exact ⟨_,w,hrun,by simpa using hr2,hg,.inl rfl,none,0,by simp [hn0]⟩
   ·subst hv;have hrun := app_nil2 g n cap hnc c w;rw [appX_eq] at hrun;exact ⟨_,w,hrun,by simpa using hr2,hg,.inl rfl,_,_,rfl⟩
end
mutual
def innK : JV → List ByteArray
 | .map ks l => ks ++ innKs l
 | .arr l => innKs l
 | _ => []
def innKs : List JV → List ByteArray
 | [] => []
 | j :: r => innK j ++ innKs r
end
theorem innKs_app : ∀ (l : List JV) (j : JV),innKs (l ++ [j]) = innKs l ++ innK j
 | [],j => by simp [innKs]
 | x :: r,j => by simp [innKs,innKs_app r j]
theorem innKs_take {l : List JV} {q : Nat} {j : JV} (h : l[q]? = some j) : innKs (l.take (q + 1)) = innKs (l.take q) ++ innK j := by
 rw [List.take_add_one,h];exact innKs_app _ _
end Go.Cf
namespace Go.Cf
open Go.RowKit Go.Conc Go.Proofs
attribute [local go_sem ↓] appX_eq
attribute [local go_sem] run_store_flt
def JV.kids : JV → List JV
 | .arr l => l
 | .map _ l => l
 | _ => []
def JV.keys : JV → List ByteArray
 | .map ks _ => ks
 | _ => []
def JV.kind : JV → Int
 | .int _ => 1
 | .num _ => 2
 | .tr _ => 3
 | .txt _ => 4
 | .arr _ => 5
 | .map _ _ => 6
mutual
theorem JV.induct {P : JV → Prop} (h : ∀ j : JV,(∀ x ∈ j.kids,P x) → P j) : ∀ j : JV,P j
 | .int n => h (.int n) (fun x hx => by cases hx)
 | .num n => h (.num n) (fun x hx => by cases hx)
 | .tr n => h (.tr n) (fun x hx => by cases hx)
 | .txt n => h (.txt n) (fun x hx => by cases hx)
 | .arr l => h (.arr l) (JV.inducts h l)
 | .map ks l => h (.map ks l) (JV.inducts h l)
theorem JV.inducts {P : JV → Prop} (h : ∀ j : JV,(∀ x ∈ j.kids,P x) → P j) : ∀ l : List JV,∀ x ∈ l,P x
 | [],x,hx => by cases hx
 | y :: r,x,hx => by
  rcases List.mem_cons.1 hx with e | hx
  ·rw [e];exact JV.induct h y
  ·exact JV.inducts h r x hx
end
theorem innK_eq (j : JV) : innK j = j.keys ++ innKs j.kids := by
 cases j <;> simp [innK,innKs,JV.keys,JV.kids]
section
variable {ℓ ℓ2 : Nat} {M : Nat → Prop} {lab lab1 : Lab} {w w1 : World} {j : JV} {c : Array Value}
theorem NdV.view (h : NdV ℓ lab w j c) : ∃ n f b s a1 c1 a2 c2,c = ndC j.kind n f b s (.slice a1 j.keys.length c1) (.slice a2 j.kids.length c2) ∧ KsIn ℓ lab w a1 j.keys ∧ NdVs ℓ lab w a2 0 j.kids := by
 have k0 : ∀ a,KsIn ℓ lab w a [] := fun a i k hk => by simp at hk
 cases j with
 | int n =>
  simp only [NdV] at h;obtain ⟨f,a1,c1,a2,c2,hf,rfl⟩ := h;exact ⟨_,_,_,_,_,_,_,_,rfl,k0 _,by simp only [JV.kids,NdVs]⟩
 | num f =>
  simp only [NdV] at h;obtain ⟨a1,c1,a2,c2,rfl⟩ := h;exact ⟨_,_,_,_,_,_,_,_,rfl,k0 _,by simp only [JV.kids,NdVs]⟩
 | tr b =>
  simp only [NdV] at h;obtain ⟨f,a1,c1,a2,c2,hf,rfl⟩ := h;exact ⟨_,_,_,_,_,_,_,_,rfl,k0 _,by simp only [JV.kids,NdVs]⟩
 | txt t =>
  simp only [NdV] at h;obtain ⟨f,a1,c1,a2,c2,hf,rfl⟩ := h;exact ⟨_,_,_,_,_,_,_,_,rfl,k0 _,by simp only [JV.kids,NdVs]⟩
 | arr l =>
  simp only [NdV] at h;obtain ⟨f,a1,c1,a2,c2,hf,rfl,hl⟩ := h;exact ⟨_,_,_,_,_,_,_,_,rfl,k0 _,hl⟩
 | map ks l =>
  simp only [NdV] at h;obtain ⟨f,a1,c1,a2,c2,hf,rfl,hk,hl⟩ := h;exact ⟨_,_,_,_,_,_,_,_,rfl,hk,hl⟩
theorem rowNews {a : Option Addr} {n c : Nat} {ks : List ByteArray} (h : Rw 0 ℓ lab w 9 1 (.slice a n c) ks.length (ks.map .string)) : NewsIn w a ks := by
 intro i k hk;have hi := (List.getElem?_eq_some_iff.1 hk).1;have hx := h.1;obtain ⟨_,⟨h0,hn0⟩ | ⟨g,cap,cur,hv,_⟩⟩ := h.1
 ·omega
 ·cases hv
  refine ⟨_,rfl,?_⟩;have h2 := hx.cellAt i (by omega);rw [List.getElem?_map,hk] at h2;have e : (⟨g,0,none⟩ : Addr).add i = ⟨g,i,none⟩ := by
   unfold Addr.add
   split
   ·rename_i h;subst h;rfl
   ·simp
  rw [e,h2];rfl
theorem KsIn.news {a : Option Addr} {ks : List ByteArray} (h : KsIn ℓ lab w a ks) : NewsIn w a ks := fun i k hk => by
 obtain ⟨ad,h1,_,h2⟩ := h i k hk;exact ⟨ad,h1,h2⟩
def JS (j : JV) : Prop := ∃ d,JT d j
theorem JS.kids (h : JS j) : j.kids.length ≤ 8 ∧ j.keys.length ≤ 8 ∧ (∀ k ∈ j.keys,k.size ≤ 20) ∧ ∀ x ∈ j.kids,JS x := by
 obtain ⟨d,h⟩ := h
 cases d with
 | zero => simp only [JT] at h
 | succ d =>
  cases j with
  | arr l =>
   simp only [JT] at h;exact ⟨h.1,by simp [JV.keys],by simp [JV.keys],fun x hx => ⟨d,h.2 x hx⟩⟩
  | map ks l =>
   simp only [JT] at h;exact ⟨h.2.1,h.1,h.2.2.1,fun x hx => ⟨d,h.2.2.2 x hx⟩⟩
  | _ => exact ⟨by simp [JV.kids],by simp [JV.keys],by simp [JV.keys],by simp [JV.kids]⟩
def InnP (lab : Lab) (w : World) (ks : List ByteArray) (e : Ending) (w' : World) : Prop := ∃ v lab',e = .returned v ∧ Rw 0 48 lab' w' 9 1 v ks.length (ks.map .string) ∧ Mv (fun _ => False) w lab w' lab'
def InnC (j : JV) : Prop := ∀ (ℓ : Nat) (lab : Lab) (w : World) (c : Array Value),NdV ℓ lab w j c → JS j → (innK j).length ≤ 1000000 → Calls Tryz.prog 26 #[.agg c] w (InnP lab w (innK j))
theorem innKs_len {l : List JV} {q : Nat} {x : JV} (h : l[q]? = some x) : (innKs (l.take q)).length + (innK x).length ≤ (innKs l).length := by
 have h1 := innKs_take h;have h2 : ∀ (a b : List JV),(innKs (a ++ b)).length = (innKs a).length + (innKs b).length := by
  intro a
  induction a with
  | nil => intro b;simp [innKs]
  | cons x r ih => intro b;simp [innKs,ih];omega
 have h3 := h2 (l.take (q + 1)) (l.drop (q + 1));rw [List.take_append_drop,h1,List.length_append] at h3;omega
structure InnI (w : World) (lab : Lab) (s : Value) (ks : List ByteArray) (wr : World) (labr : Lab) : Prop where
 row : Rw 0 48 labr wr 9 1 s ks.length (ks.map .string)
 mv : Mv (fun _ => False) w lab wr labr
 own : ∀ k,s.ownBlock = some k → w.heap.size ≤ k
theorem Mv.alloc0 (w : World) (lab : Lab) (o : Obj) (ℓ : Nat) : Mv (fun _ => False) w lab (w.alloc o) (lab.ext w.heap.size ℓ) := Mv.alloc _ _ _ _
theorem InnI.app {s : Value} {ks ks2 : List ByteArray} {wr : World} {labr : Lab} {a : Option Addr} {c : Nat} (h : InnI w lab s ks wr labr) (hn : NewsIn wr a ks2) (hmax : ks.length + ks2.length ≤ 100000000) :
  ∃ v' w' lab' A m C,(AppX #[23,23] 23 #[s,.slice a ks2.length c]).run Tryz.prog wr = .ok v' w' ∧ InnI w lab v' (ks ++ ks2) w' lab' ∧ v' = .slice A m C := by
 obtain ⟨v',w',hrun,hr,hg,hat,A,C,hs⟩ := app_str (c := c) h.row hn hmax;refine ⟨v',w',_,A,_,C,hrun,⟨by rw [List.length_append,List.map_append];exact hr,?_,fun k hk => ?_⟩,hs⟩
 ·cases ho : s.ownBlock with
  | none =>
   rw [ho] at hg;exact h.mv.trans (Mv.grown hg labr 48 (fun k hk => by cases hk)) (fun _ h => h)
  | some r =>
   rw [ho] at hg;exact h.mv.grown_new hg (h.own r ho) 48
 ·rcases hat with e | e
  ·exact h.own k (by rw [← e];exact hk)
  ·rw [e] at hk
   cases hk
   exact h.mv.size
theorem InnI.more {s : Value} {ks : List ByteArray} {wr w2 : World} {labr lab2 : Lab} (h : InnI w lab s ks wr labr) (m : Mv (fun _ => False) wr labr w2 lab2) : InnI w lab s ks w2 lab2 := ⟨h.row.mv m (fun h => h),h.mv.trans m (fun _ h => h),h.own⟩
set_option maxRecDepth 100000 in
set_option maxHeartbeats 4000000 in
theorem inner_at (j : JV) (ih : ∀ x ∈ j.kids,InnC x) : InnC j := by
 intro ℓ lab w c h hjs hmax;rw [innK_eq] at hmax ⊢;obtain ⟨hlen,hkl,-,hjk⟩ := hjs.kids;clear hjs;obtain ⟨n,f,b,s,a1,c1,a2,c2,rfl,hk,hv⟩ := h.view;clear h;rw [List.length_append] at hmax;generalize j.kind = kd at *;generalize j.keys = keys at *;generalize j.kids = kids at *;obtain ⟨wb,hwb⟩ : ∃ x,x = w.alloc (.cells (ndC kd n f b s (.slice a1 keys.length c1) (.slice a2 kids.length c2)) 26) := ⟨_,rfl⟩;have mb : Mv (fun _ => False) w lab wb (lab.ext w.heap.size 45) := by rw [hwb];exact Mv.alloc0 _ _ _ _
 have hbx : Cl 45 (lab.ext w.heap.size 45) wb w.heap.size (ndC kd n f b s (.slice a1 keys.length c1) (.slice a2 kids.length c2)) 26 := by rw [hwb];exact Cl.alloc _ _ _ _ _
 obtain ⟨labb,hlabb⟩ : ∃ x,x = lab.ext w.heap.size 45 := ⟨_,rfl⟩;rw [← hlabb] at mb hbx;have h0 : InnI wb labb (.slice none 0 0) [] wb labb := ⟨Rw.none _ _ _ _ _,Mv.refl _ _ _,fun k hk => by cases hk⟩;obtain ⟨v1,w1,lab1,A1,m1,C1,hrun1,hI1,rfl⟩ := h0.app (c := c1) (hk.mv mb (fun h => h)).news (by simp;omega);simp only [List.nil_append] at hI1;have q5 : wb.cell? ⟨w.heap.size,5,none⟩ = some (.slice a1 keys.length c1) := hbx.cell 5;have q6 : w1.cell? ⟨w.heap.size,6,none⟩ = some (.slice a2 kids.length c2) := (hbx.mv hI1.mv (fun h => h)).cell 6;have HK := Lib.hid hk;have HV := Lib.hid hv;have HI := Lib.hid ih;have HI1 := Lib.hid hI1;have HM := Lib.hid mb;clear hk hv ih h0 hI1 mb hbx hlabb;unfold ndC at *;go_enter Tryz.func26,Tryz.ntmps26;go_upto_region 1 with fail
 rw [← hwb];clear hwb;go_wp2_with fail;go_loopw [3,12] (fun s i wr => ∃ (q : Nat) (labr : Lab) (A : Option Addr) (m C : Nat),i = .int .i64 q ∧ q ≤ kids.length ∧ s = .slice A m C ∧ InnI wb labb s (keys ++ innKs (kids.take q)) wr labr) (fun _ i _ => kids.length - (RowKit.intOf i).toNat)
 case atStart => exact ⟨0,lab1,A1,m1,C1,rfl,Nat.zero_le _,rfl,by simpa [innKs] using HI1.out⟩
 case round =>
  obtain ⟨q,labr,A,m,C,rfl,hq,rfl,hI⟩ := hrel;by_cases hlt : q < kids.length
  ·have hq1 : (q : Int) < (kids.length : Int) := by omega
   have hq0 : (0 : Int) ≤ (q : Int) := Int.natCast_nonneg _;obtain ⟨x,hx⟩ : ∃ x,kids[q]? = some x := ⟨_,List.getElem?_eq_getElem hlt⟩;obtain ⟨ad,cx,rfl,hl,hc7,hxv⟩ := HV.out.get hx;rw [Nat.zero_add] at hc7;have hil := innKs_len hx;have hM0 := HM.out.trans hI.mv (fun _ h => h);have hxr := NdV.mv hM0 (fun h => h) x hxv;obtain ⟨kx,nx,fx,bx,sx,ax,mx,ccx,ay,my,ccy,rfl⟩ := hxv.shape;have hc8 := cell7.mv hc7 hM0 (fun h => h);obtain ⟨r0,r1,r2,r3,r4,r5,r6⟩ := hc8.facts;have mA := Mv.alloc0 wr labr (.cells (ndC kx nx fx bx sx (.slice ax mx ccx) (.slice ay my ccy)) 26) 45;have HC := Lib.hid (HI.out x (List.mem_of_getElem? hx) ℓ _ _ _ (NdV.mv mA (fun h => h) x hxr) (hjk x (List.mem_of_getElem? hx)) (by omega));have HJ := Lib.hid (hI.more mA);clear hxr hM0 hc7 hc8 hxv mA hI;unfold ndC at *;go_wp2_with fail;refine HC.out.mono ?_;rintro e w3 ⟨v3,lab3,rfl,hr3,m3⟩;obtain ⟨A3,C3,rfl⟩ := own_slice hr3.1;obtain ⟨v4,w4,lab4,A4,m4,C4,hrun4,hI4,rfl⟩ := (HJ.out.more m3).app (c := C3) (rowNews hr3) (by rw [List.length_append];omega);rw [List.append_assoc,← innKs_take hx] at hI4;have HI4 := Lib.hid hI4;clear hI4 hr3 m3;go_wp2;go_roundw
   case rel => exact ⟨q + 1,lab4,A4,m4,C4,by go_num,by omega,rfl,HI4.out⟩
   case measure => simp [RowKit.intOf];omega
  ·have hq1 : ¬ ((q : Int) < (kids.length : Int)) := by omega
   obtain rfl : q = kids.length := by omega
   rw [List.take_length] at *;have HI4 := Lib.hid hI;clear hI;go_wp2;go_ret;exact ⟨_,labr,rfl,HI4.out.row,HM.out.trans HI4.out.mv (fun _ h => h)⟩
theorem inner_c : ∀ j : JV,InnC j := JV.induct inner_at
end
end Go.Cf
namespace Go.Cf
open Go.RowKit Go.Conc Go.Proofs
attribute [local go_sem ↓] mk75z mk61
def trueW (l : List UInt8) : Prop := l = [116,114,117,101] ∨ l = [121,101,115] ∨ l = [111,110]
def falseW (l : List UInt8) : Prop := l = [102,97,108,115,101] ∨ l = [110,111] ∨ l = [111,102,102]
section
variable {B : Nat} {lab lab1 : Lab} {w w1 : World} {K : PK} {X X' : PX} {M : Nat → Prop}
set_option maxRecDepth 100000 in
set_option maxHeartbeats 2000000 in
theorem item_bool (h : PAt B lab w K X) (hB : B ≤ w.heap.size) (hped : K.ped = false) (xv : ByteArray) (xl xp : Int) (b : Bool) (hsz : xv.size ≤ 1000000) (ha : ∀ (j : Nat) (b : UInt8),xv.data.toList[j]? = some b → b.toNat < 128)
  (hw : (b = true ∧ trueW (Lib.toLowerA xv.data.toList)) ∨ (b = false ∧ falseW (Lib.toLowerA xv.data.toList))) (hs : X.Sets (.tr b) X') :
  Calls Tryz.prog 57 #[.pointer (some ⟨K.p,0,none⟩),.agg #[i64 (6 : Nat),.string xv,i64 xl,i64 xp],.string { data := #[] }] w fun e w' => e = .returned .nilIface ∧ ∃ lab',PAt B lab' w' K X' ∧ Mv PM w lab w' lab' := by
 obtain ⟨lab1,hb,m1⟩ := h.boxed hB 6 xv xl xp;have HBX := Lib.hid (aI hb m1);have HW := Lib.hid hw;have HA := Lib.hid ha;have HS := Lib.hid hs;clear hb m1 hw ha hs h;go_enter Tryz.func57,Tryz.ntmps57;go_wp2_with fail;refine (Tryz.strings_ToLower_ascii xv _ (by omega) HA.out).mono ?_;rintro e w2 ⟨rfl,hb2⟩;have m2 : Mv (fun _ => False) (Boxed w K 6 xv xl xp) lab1 w2 _ := Mv.below hb2 lab1 7;have hb := HBX.out.1;have d0 := (hb.b0.mv m2 (fun h => h));have d1 := (hb.b1.mv m2 (fun h => h));have q0 : w2.cell? ⟨w.heap.size + 1,0,none⟩ = some (i64 (6 : Nat)) := d1.cell 0;have q1 : w2.cell? ⟨w.heap.size + 1,1,none⟩ = some (.string xv) := d1.cell 1;have q2 : w2.cell? ⟨w.heap.size + 1,2,none⟩ = some (i64 xl) := d1.cell 2;have q3 : w2.cell? ⟨w.heap.size + 1,3,none⟩ = some (i64 xp) := d1.cell 3;have HC := Lib.hid (lay_c (hb.pat.mv m2 (fun _ _ h => h)) (Nat.le_trans hb.hB hb2.size) hped HS.out 4 (.bool b) rfl _ (w.heap.size + 1 + 1) d0 6 xv xl xp);have HM := Lib.hid (HBX.out.2.trans (m2.mono (M' := PM) (fun _ h => h.elim)) (fun _ h => h));have hw := HW.out;clear hb2 m2 hb d0 d1;rcases hw with ⟨rfl,hw⟩ | ⟨rfl,hw⟩
 all_goals rcases hw with hw | hw | hw
 all_goals rw [hw]
 all_goals go_wp2_with fail
 all_goals refine HC.out.mono ?_
 all_goals rintro e w6 ⟨rfl,lab6,h6,m6⟩
 all_goals go_wp2
 all_goals go_ret
 all_goals exact ⟨rfl,lab6,h6,HM.out.trans m6 (fun _ h => h)⟩
end
end Go.Cf
