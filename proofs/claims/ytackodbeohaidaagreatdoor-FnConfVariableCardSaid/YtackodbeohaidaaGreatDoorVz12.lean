/-
  Texts joined: Rn Wi Ix Rp Iy Iz Lf Iv Rs Wh Va Wl.
-/
import Derived.Test.YtackodbeohaidaaGreatDoorVz3
import Derived.Test.YtackodbeohaidaaGreatDoorVz6
import Derived.Test.YtackodbeohaidaaGreatDoorVz7
import Derived.Test.YtackodbeohaidaaGreatDoorVz8
import Derived.Test.YtackodbeohaidaaGreatDoorVz9
import Derived.Test.YtackodbeohaidaaGreatDoorVz11
import Derived.Deep.RegionLaw
/-
  Whole numbers as the lexer hands them on, by plain data.
-/
namespace Go.Cf
open Go.RowKit Go.Conc Go.Proofs
section
variable {s : ByteArray} {p st : Nat} {stk sk : List Nat} {L : LX} {n : Nat}
theorem ld_num_tm (hp : p < s.size) (hst : st ≤ p) (e : tmB (byteAt s p)) (sk : List Nat) (n : Nat) (hk : stk = sk ++ [n]) (hl : sk.length ≤ 1000000) : Emits s p st stk (plainT 199) 7 (s.extract st p) (1 + (nlc s p : Nat)) p p sk (plainT n) := by
  rcases e with e | e | e | e | e
  · exact ld_num_nl hp hst e sk n hk hl
  · exact ld_num_ws hp hst e sk n hk hl
  · exact ld_num_semi hp hst e sk n hk hl
  · exact ld_num_comma hp hst e sk n hk hl
  · exact ld_num_brace hp hst e sk n hk hl
theorem ld_suf_tm (hp : p < s.size) (hst : st ≤ p) (e : tmB (byteAt s p)) (sk : List Nat) (n : Nat) (hk : stk = sk ++ [n]) (hl : sk.length ≤ 1000000) : Emits s p st stk (plainT 212) 7 (s.extract st p) (1 + (nlc s p : Nat)) p p sk (plainT n) := by
  rcases e with e | e | e | e | e
  · exact ld_suf_nl hp hst e sk n hk hl
  · exact ld_suf_ws hp hst e sk n hk hl
  · exact ld_suf_semi hp hst e sk n hk hl
  · exact ld_suf_comma hp hst e sk n hk hl
  · exact ld_suf_brace hp hst e sk n hk hl
theorem ld_neg_tm (hp : p < s.size) (hst : st ≤ p) (e : tmB (byteAt s p)) (sk : List Nat) (n : Nat) (hk : stk = sk ++ [n]) (hl : sk.length ≤ 1000000) : Emits s p st stk (plainT 198) 7 (s.extract st p) (1 + (nlc s p : Nat)) p p sk (plainT n) := by
  refine ld_neg_end hp hst ?_ ?_ ?_ sk n hk hl
  · rcases e with e | e | e | e | e <;> rw [e] <;> rfl
  · rcases e with e | e | e | e | e <;> rw [e] <;> rfl
  · rcases e with e | e | e | e | e <;> rw [e] <;> decide
/-- Behind the digits: a size, or none. -/
theorem rd_tail {f : Nat} {sf : ByteArray} {u : Int} (hsf : Sfx sf u) (h : Has s p sf) (hlt : p + sf.size < s.size) (hst : st ≤ p) (he : tmB (byteAt s (p + sf.size)))
    (hend : sf = ⟨#[]⟩ → Emits s p st stk (plainT f) 7 (s.extract st p) (1 + (nlc s p : Nat)) p p sk (plainT n))
    (hsuf : p < s.size → isDig (byteAt s p) = false → isSuf (byteAt s p) = true → byteAt s p ≠ 45 → byteAt s p ≠ 46 → Leads s p st stk (plainT f) (p + 1) st stk (plainT 212))
    (hk : stk = sk ++ [n]) (hl : sk.length ≤ 1000000) : ∃ line, Emits s p st stk (plainT f) 7 (s.extract st (p + sf.size)) line (p + sf.size) (p + sf.size) sk (plainT n) := by
  rcases hsf.item with ⟨rfl, _⟩ | hI
  · exact ⟨_, hend rfl⟩
  · have h0 := h.at 0 hI.s0
    rw [Nat.add_zero] at h0
    have hs0 := hI.s0
    have l0 := hsuf (by omega) (by rw [h0]; exact hI.d) (by rw [h0]; exact hI.suf) (by rw [h0]; exact hI.d2) (by rw [h0]; intro e; have := hI.suf; rw [e] at this; exact absurd this (by decide))
    have l1 := leads_run (s := s) (p := p + 1) (st := st) (stk := stk) (f := 212) (Q := fun c => c = 98 ∨ c = 66 ∨ c = 105) (fun p hp hq => by
      rcases hq with hq | hq | hq
      · exact ld_suf_b hp hq
      · exact ld_suf_B hp hq
      · exact ld_suf_i hp hq) (sf.size - 1) (by omega) (fun i hi => by
      have := h.at (i + 1) (by omega)
      rw [show p + 1 + i = p + (i + 1) from by omega, this]
      exact hI.rest (i + 1) (by omega) (by omega))
    rw [show p + 1 + (sf.size - 1) = p + sf.size from by omega] at l1
    exact ⟨_, (l0.trans l1).emits (ld_suf_tm hlt (by omega) he sk n hk hl)⟩
/-- A whole number. -/
theorem rd_int {v : Int} {T : ByteArray} (hsp : IntSp v T) (h : Has s p T) (hlt : p + T.size < s.size) (he : tmB (byteAt s (p + T.size))) (hk : stk = sk ++ [n]) (hl : sk.length ≤ 1000000) :
    ∃ line, Emits s p p stk (plainT 174) 7 T line (p + T.size) (p + T.size) sk (plainT n) := by
  obtain ⟨sg, m, sf, u, rfl, hsf, hn, hb⟩ := hsp
  have hu := mulB_pos hsf
  have hmu : (m : Int) ≤ m * u := by
    have := Int.mul_le_mul_of_nonneg_left hu (Int.natCast_nonneg m)
    omega
  have hz := decB_small m (by omega)
  have hd := decB_dig m
  have hall := h.ext
  have h1 := h.left.left
  have h2 := h.left.right
  have h3 := h.right
  have hsz : (sg ++ decB m ++ sf).size = sg.size + (decB m).size + sf.size := by rw [ByteArray.size_append, ByteArray.size_append]
  rw [ByteArray.size_append, ← Nat.add_assoc] at h3
  rw [hsz] at hlt he hall ⊢
  rw [show p + (sg.size + (decB m).size + sf.size) = p + sg.size + (decB m).size + sf.size from by omega] at hlt he hall ⊢
  have hd0 := h2.at 0 hz.1
  rw [Nat.add_zero] at hd0
  have hdd0 := hd 0 hz.1
  rw [← hd0] at hdd0
  rcases hn with ⟨rfl, _⟩ | ⟨rfl, _⟩
  · have hs0 : (⟨#[]⟩ : ByteArray).size = 0 := rfl
    rw [hs0, Nat.add_zero] at h2 h3 hlt he hall hdd0 ⊢
    have l0 : Leads s p p stk (plainT 174) p p stk (plainT 186) := ld_val_dig (by omega) (by simp [isWS]; omega) (dig_true hdd0) hdd0
    have l1 : Leads s p p stk (plainT 186) (p + 1) p stk (plainT 199) := ld_num_start (by omega) (dig_true hdd0)
    have l2 := leads_digits (s := s) (p := p + 1) (st := p) (stk := stk) ((decB m).size - 1) (by omega) (fun i hi => by
      rw [show p + 1 + i = p + (i + 1) from by omega, h2.at (i + 1) (by omega)]
      exact hd (i + 1) (by omega))
    rw [show p + 1 + ((decB m).size - 1) = p + (decB m).size from by omega] at l2
    obtain ⟨line, E⟩ := rd_tail (st := p) (f := 199) (stk := stk) hsf h3 hlt (by omega) he (fun e => ld_num_tm (by omega) (by omega) (by subst e; exact he) sk n hk hl) (fun h1 h2 h3 h4 h5 => ld_num_suf h1 h2 h3 h4 h5) hk hl
    rw [hall] at E
    exact ⟨line, (l0.trans (l1.trans l2)).emits E⟩
  · have hs1 : (⟨#[45]⟩ : ByteArray).size = 1 := rfl
    have e45 : byteAt s p = 45 := h1.at 0 (by decide)
    rw [hs1] at h2 h3 hlt he hall hdd0 ⊢
    have l0 : Leads s p p stk (plainT 174) (p + 1) p stk (plainT 184) := ld_val_neg (by omega) e45
    have l1 : Leads s (p + 1) p stk (plainT 184) (p + 1 + 1) p stk (plainT 198) := ld_neg_start (by omega) (dig_true hdd0)
    have l2 := leads_run (s := s) (p := p + 1 + 1) (st := p) (stk := stk) (f := 198) (Q := fun c => isDig c = true) (fun p hp hq => ld_neg_dig hp hq) ((decB m).size - 1) (by omega) (fun i hi => by
      rw [show p + 1 + 1 + i = p + 1 + (i + 1) from by omega, h2.at (i + 1) (by omega)]
      exact dig_true (hd (i + 1) (by omega)))
    rw [show p + 1 + 1 + ((decB m).size - 1) = p + 1 + (decB m).size from by omega] at l2
    obtain ⟨line, E⟩ := rd_tail (st := p) (f := 198) (stk := stk) hsf h3 hlt (by omega) he (fun e => ld_neg_tm (by omega) (by omega) (by subst e; exact he) sk n hk hl) (fun h1 h2 h3 _ h5 => ld_neg_suf h1 h2 h3 h5) hk hl
    rw [hall] at E
    exact ⟨line, (l0.trans (l1.trans l2)).emits E⟩
end
end Go.Cf

/-
  A variable that there is not is refused.
-/
namespace Go.Cf
open Go.RowKit Go.Conc Go.Proofs
section
variable {p ev : Nat} {A A' : LW} {x : It} {lab labg labg' : Lab} {w w' : World}
end
section
variable {K : PK} {L : LX} {ks : List ByteArray} {lab : Lab} {w : World} {n : Nat} {its : List Value} {k : ByteArray}
end
end Go.Cf

/-
  processItem: strings, comments, where lists and maps begin and end.
-/
namespace Go.Cf
open Go.RowKit Go.Conc Go.Proofs
attribute [local go_sem ↓] mk75z mk61
section
variable {B : Nat} {lab lab1 : Lab} {w w1 : World} {K : PK} {X X' : PX} {M : Nat → Prop}
set_option maxRecDepth 100000 in
set_option maxHeartbeats 1000000 in
theorem item_str (h : PAt B lab w K X) (hB : B ≤ w.heap.size) (hped : K.ped = false) (xv : ByteArray) (xl xp : Int) (hs : X.Sets (.txt xv) X') :
    Calls Tryz.prog 57 #[.pointer (some ⟨K.p, 0, none⟩), .agg #[i64 (5 : Nat), .string xv, i64 xl, i64 xp], .string { data := #[] }] w fun e w' => e = .returned .nilIface ∧ ∃ lab', PAt B lab' w' K X' ∧ Mv PM w lab w' lab' := by
  obtain ⟨lab1, hb, m1⟩ := h.boxed hB 5 xv xl xp
  have HC := Lib.hid (lay_c hb.pat hb.hB hped hs 9 (.string xv) rfl _ (w.heap.size + 1 + 1) hb.b0 5 xv xl xp)
  clear hb
  go_enter Tryz.func57, Tryz.ntmps57
  go_wp2_with fail
  refine HC.out.mono ?_
  rintro e w6 ⟨rfl, lab6, h6, m6⟩
  go_wp2
  go_ret
  exact ⟨rfl, lab6, h6, m1.trans m6 (fun _ h => h)⟩
set_option maxRecDepth 100000 in
set_option maxHeartbeats 1000000 in
theorem item_cmt14 (h : PAt B lab w K X) (hB : B ≤ w.heap.size) (xv : ByteArray) (xl xp : Int) :
    Calls Tryz.prog 57 #[.pointer (some ⟨K.p, 0, none⟩), .agg #[i64 (14 : Nat), .string xv, i64 xl, i64 xp], .string { data := #[] }] w fun e w' => e = .returned .nilIface ∧ ∃ lab', PAt B lab' w' K X ∧ Mv PM w lab w' lab' := by
  obtain ⟨lab1, hb, m1⟩ := h.boxed hB 14 xv xl xp
  have HB := Lib.hid hb.pat
  clear hb
  go_enter Tryz.func57, Tryz.ntmps57
  go_wp2
  go_ret
  exact ⟨rfl, lab1, HB.out, m1⟩
set_option maxRecDepth 100000 in
set_option maxHeartbeats 1000000 in
theorem item_cmt4 (h : PAt B lab w K X) (hB : B ≤ w.heap.size) (xv : ByteArray) (xl xp : Int) :
    Calls Tryz.prog 57 #[.pointer (some ⟨K.p, 0, none⟩), .agg #[i64 (4 : Nat), .string xv, i64 xl, i64 xp], .string { data := #[] }] w fun e w' => e = .returned .nilIface ∧ ∃ lab', PAt B lab' w' K X ∧ Mv PM w lab w' lab' := by
  obtain ⟨lab1, hb, m1⟩ := h.boxed hB 4 xv xl xp
  have HB := Lib.hid hb.pat
  clear hb
  go_enter Tryz.func57, Tryz.ntmps57
  go_wp2
  go_ret
  exact ⟨rfl, lab1, HB.out, m1⟩
set_option maxRecDepth 100000 in
set_option maxHeartbeats 1000000 in
theorem item_list (h : PAt B lab w K X) (hB : B ≤ w.heap.size) (hl : X.cx.length ≤ 1000000) (hne : X.cx ≠ []) (xv : ByteArray) (xl xp : Int) :
    Calls Tryz.prog 57 #[.pointer (some ⟨K.p, 0, none⟩), .agg #[i64 (10 : Nat), .string xv, i64 xl, i64 xp], .string { data := #[] }] w fun e w' => e = .returned .nilIface ∧ ∃ lab', PAt B lab' w' K { X with cx := .arr [] :: X.cx } ∧ Mv PM w lab w' lab' := by
  obtain ⟨lab1, hb, m1⟩ := h.boxed hB 10 xv xl xp
  have m2 : Mv (fun _ => False) (Boxed w K 10 xv xl xp) lab1 ((Boxed w K 10 xv xl xp).alloc (.cells #[] 20)) (lab1.ext (Boxed w K 10 xv xl xp).heap.size (10 + X.cx.length)) := Mv.alloc _ _ _ _
  have hrw := row_new (B := B) (Boxed w K 10 xv xl xp) lab1 (10 + X.cx.length) 20 1 0 #[] hb.hB (by unfold maxLen; omega) rfl
  have hp2 := hb.pat.mv m2 (fun _ _ h => h)
  have HC := pushContext_c hp2 (Nat.le_trans hb.hB m2.size) hl (.arr []) 75 _ ⟨_, [], rfl, hrw, trivial⟩ (fun e => absurd e hne)
  have m12 := m1.trans m2 (fun _ h => h.elim)
  have hWs : (Boxed w K 10 xv xl xp).heap.size = w.heap.size + 1 + 1 + 1 := by unfold Boxed; simp [World.size_alloc]
  rw [hWs] at HC m12
  have HCH := Lib.hid HC
  have HB := Lib.hid hb
  clear m2 hrw hp2 m1 HC hb hWs
  go_enter Tryz.func57, Tryz.ntmps57
  go_wp2_with fail
  refine HCH.out.mono ?_
  rintro e w6 ⟨rfl, lab6, h6, m6⟩
  go_wp2
  go_ret
  exact ⟨rfl, lab6, h6, m12.trans m6 (fun _ h => h)⟩
set_option maxRecDepth 100000 in
set_option maxHeartbeats 1000000 in
theorem item_map (h : PAt B lab w K X) (hB : B ≤ w.heap.size) (hl : X.cx.length ≤ 1000000) (hne : X.cx ≠ []) (xv : ByteArray) (xl xp : Int) :
    Calls Tryz.prog 57 #[.pointer (some ⟨K.p, 0, none⟩), .agg #[i64 (12 : Nat), .string xv, i64 xl, i64 xp], .string { data := #[] }] w fun e w' => e = .returned .nilIface ∧ ∃ lab', PAt B lab' w' K { X with cx := .map [] :: X.cx } ∧ Mv PM w lab w' lab' := by
  obtain ⟨lab1, hb, m1⟩ := h.boxed hB 12 xv xl xp
  have m2 : Mv (fun _ => False) (Boxed w K 12 xv xl xp) lab1 ((Boxed w K 12 xv xl xp).alloc (.map #[] 0)) (lab1.ext (Boxed w K 12 xv xl xp).heap.size (10 + X.cx.length)) := Mv.alloc _ _ _ _
  have hrw := map_new (Boxed w K 12 xv xl xp) lab1 (10 + X.cx.length)
  have hp2 := hb.pat.mv m2 (fun _ _ h => h)
  have HC := pushContext_c hp2 (Nat.le_trans hb.hB m2.size) hl (.map []) 61 _ ⟨_, [], rfl, hrw, rfl, trivial⟩ (fun e => absurd e hne)
  have m12 := m1.trans m2 (fun _ h => h.elim)
  have hWs : (Boxed w K 12 xv xl xp).heap.size = w.heap.size + 1 + 1 + 1 := by unfold Boxed; simp [World.size_alloc]
  rw [hWs] at HC m12
  have HCH := Lib.hid HC
  have HB := Lib.hid hb
  clear m2 hrw hp2 m1 HC hb hWs
  go_enter Tryz.func57, Tryz.ntmps57
  go_wp2_with fail
  refine HCH.out.mono ?_
  rintro e w6 ⟨rfl, lab6, h6, m6⟩
  go_wp2
  go_ret
  exact ⟨rfl, lab6, h6, m12.trans m6 (fun _ h => h)⟩
/-- The context that was innermost, closed. -/
def CJ.jv : CJ → JV
  | .map m => .map (m.map (·.1)) (m.map (·.2))
  | .arr l => .arr l
theorem CAt.close {ℓ : Nat} {c : CJ} {v : Value} (h : CAt B ℓ lab w c v) (h6 : ℓ ≠ 6) : isJ B (fun k => if lab k = ℓ then 6 else lab k) w c.jv v := by
  have m : Mv (fun x => x = ℓ) w lab w (fun k => if lab k = ℓ then 6 else lab k) := ⟨rfl, rfl, rfl, Nat.le_refl _, fun _ _ _ => rfl, fun k _ hn => if_neg hn⟩
  have hm6 : ¬ (fun x => x = ℓ) 6 := fun e => h6 e.symm
  cases c with
  | map l =>
    obtain ⟨b, t, rfl, hp, ht, hj⟩ := h
    have e1 : t.map (·.1) = l.map (·.1) := by rw [← ht, List.map_map]; rfl
    have e2 : t.map (·.2.1) = l.map (·.2) := by rw [← ht, List.map_map]; rfl
    have hj2 := isJs.mv m hm6 _ _ hj
    rw [e2] at hj2
    exact ⟨b, t, rfl, ⟨hp.1, if_pos hp.2⟩, e1, e2, hj2⟩
  | arr l =>
    obtain ⟨s, xs, rfl, hr, hj⟩ := h
    exact ⟨s, xs, rfl, ⟨hr.1, fun k hk => if_pos (hr.2 k hk)⟩, isJs.mv m hm6 _ _ hj⟩
theorem PAt.relab (h : PAt B lab w K X) (ℓ : Nat) (hℓ : 10 + X.cx.length ≤ ℓ) : PAt B (fun k => if lab k = ℓ then 6 else lab k) w K X ∧ Mv PM w lab w (fun k => if lab k = ℓ then 6 else lab k) := by
  have m : Mv (fun x => x = ℓ) w lab w (fun k => if lab k = ℓ then 6 else lab k) := ⟨rfl, rfl, rfl, Nat.le_refl _, fun _ _ _ => rfl, fun k _ hn => if_neg hn⟩
  obtain ⟨top, cv, kv, vs, h⟩ := h
  refine ⟨⟨top, cv, kv, vs, h.cl.mv m (by omega), h.lx.mv m (by omega), h.cv.mv m (by omega), h.kv.mv m (by omega), h.cs.mv m (by omega) (fun i hi => by omega), h.top, h.root⟩, m.mono (fun x hx => by subst hx; exact ⟨by omega, by omega, by omega⟩)⟩
end
end Go.Cf

/-
  What blanks, keys, leaves and ends feed the parser, at the top.
-/
namespace Go.Cf
open Go.RowKit Go.Conc Go.Proofs
section
variable {K : PK} {s : ByteArray} {p st : Nat} {stk sk : List Nat} {cx cx1 fin : List CJ} {ks ks1 : List ByteArray} {pt n : Nat}
theorem works_str (hK : K.ped = false) (L : LX) (x : It) (hx : x.typ = 5) (hs : (⟨L, cx, ks⟩ : PX).Sets (.txt x.val) ⟨L, cx1, ks1⟩) : Works K ⟨L, cx, ks⟩ x ⟨L, cx1, ks1⟩ := by
  intro B lab w hB hp _
  obtain ⟨xt, xv, xl, xp⟩ := x
  obtain rfl : xt = 5 := hx
  exact item_str hp hB hK xv xl xp hs
theorem works_cmt14 (L : LX) (x : It) (hx : x.typ = 14) : Works K ⟨L, cx, ks⟩ x ⟨L, cx, ks⟩ := by
  intro B lab w hB hp _
  obtain ⟨xt, xv, xl, xp⟩ := x
  obtain rfl : xt = 14 := hx
  exact item_cmt14 hp hB xv xl xp
theorem works_cmt4 (L : LX) (x : It) (hx : x.typ = 4) : Works K ⟨L, cx, ks⟩ x ⟨L, cx, ks⟩ := by
  intro B lab w hB hp _
  obtain ⟨xt, xv, xl, xp⟩ := x
  obtain rfl : xt = 4 := hx
  exact item_cmt4 hp hB xv xl xp
/-- A comment, from behind its mark up to the newline. -/
theorem fd_cmt (k : Nat) (hst : st ≤ p) (hk : p + k < s.size) (hc : ∀ i, i < k → isNLb (byteAt s (p + i)) = false ∧ byteAt s (p + i) ≠ 0) (e : byteAt s (p + k) = 10) (hl : sk.length ≤ 1000000)
    (rest : Fd K s (p + k) (p + k) sk (plainT n) cx ks 4 fin) : Fd K s p st (sk ++ [n]) (plainT 90) cx ks pt fin := by
  refine Fd.step (ld_cs_go hst) (by decide) (fun L x h1 _ _ => works_cmt14 L x h1) ?_
  have l1 := leads_run (s := s) (p := p) (st := p) (stk := sk ++ [n]) (f := 130) (Q := fun c => isNLb c = false ∧ c ≠ 0) (fun p hp hq => ld_cm_ch hp hq.1 hq.2) k (by omega) hc
  refine Fd.lead l1 (Fd.step (ld_cm_nl hk (by omega) e sk n rfl hl) (by decide) (fun L x h1 _ _ => works_cmt4 L x h1) rest)
/-- A blank at the top. -/
theorem fd_sp (hp : p < s.size) (e : isSp (byteAt s p) = true) (rest : Fd K s (p + 1) (p + 1) stk (plainT 60) cx ks pt fin) : Fd K s p st stk (plainT 60) cx ks pt fin :=
  Fd.lead ((ld_top_sp hp e).trans (ld_skip 60)) rest
theorem fd_blank (k : Nat) (h : Has s p (blankT k)) (hl : stk.length ≤ 1000000) (hpt : pt ≠ 3) (rest : ∀ pt', pt' ≠ 3 → Fd K s (p + (blankT k).size) (p + (blankT k).size) stk (plainT 60) cx ks pt' fin) : Fd K s p p stk (plainT 60) cx ks pt fin := by
  match k with
  | 0 => exact rest _ hpt
  | 1 =>
    have b0 : byteAt s p = 32 := h.at 0 (by decide)
    have b1 : byteAt s (p + 1) = 32 := h.at 1 (by decide)
    have hle : p + 2 ≤ s.size := h.le
    exact fd_sp (by omega) (by rw [b0]; rfl) (fd_sp (by omega) (by rw [b1]; rfl) (rest _ hpt))
  | 2 =>
    have hle : p + 16 ≤ s.size := h.le
    have b0 : byteAt s p = 35 := h.at 0 (by decide)
    have b15 : byteAt s (p + 15) = 10 := h.at 15 (by decide)
    refine Fd.lead (ld_top_hash (by omega) hl b0) (fd_cmt 14 (by omega) (by omega) (fun i hi => ?_) (by rw [show p + 1 + 14 = p + 15 from rfl]; exact b15) hl (fd_sp (by omega) (by rw [show p + 1 + 14 = p + 15 from rfl, b15]; rfl) (rest 4 (by decide))))
    rw [show p + 1 + i = p + (i + 1) from by omega, h.at (i + 1) (show i + 1 < 16 by omega)]
    exact (show ∀ i, i < 14 → isNLb (byteAt (blankT 2) (i + 1)) = false ∧ byteAt (blankT 2) (i + 1) ≠ 0 by decide) i hi
  | 3 =>
    have hle : p + 12 ≤ s.size := h.le
    have b0 : byteAt s p = 47 := h.at 0 (by decide)
    have b1 : byteAt s (p + 1) = 47 := h.at 1 (by decide)
    have b10 : byteAt s (p + 10) = 10 := h.at 10 (by decide)
    have b11 : byteAt s (p + 11) = 9 := h.at 11 (by decide)
    refine Fd.lead (ld_top_slash (by omega) hl b0 b1) (fd_cmt 8 (by omega) (by omega) (fun i hi => ?_) (by rw [show p + 1 + 1 + 8 = p + 10 from rfl]; exact b10) hl (fd_sp (by omega) (by rw [show p + 1 + 1 + 8 = p + 10 from rfl, b10]; rfl) (fd_sp (by omega) (by rw [show p + 1 + 1 + 8 + 1 = p + 11 from rfl, b11]; rfl) (rest 4 (by decide)))))
    rw [show p + 1 + 1 + i = p + (i + 2) from by omega, h.at (i + 2) (show i + 2 < 12 by omega)]
    exact (show ∀ i, i < 8 → isNLb (byteAt (blankT 3) (i + 2)) = false ∧ byteAt (blankT 3) (i + 2) ≠ 0 by decide) i hi
  | 4 =>
    have hle : p + 1 ≤ s.size := h.le
    have b0 : byteAt s p = 10 := h.at 0 (by decide)
    exact fd_sp (by omega) (by rw [b0]; rfl) (rest _ hpt)
  | k + 5 => exact rest _ hpt
/-- Where a value may begin. -/
def vsB (c : Nat) : Prop := isSp c = false ∧ isSep c = false ∧ c ≠ 0
/-- What stands between a key and its value. -/
theorem ld_sep (j : Nat) (hj : j < 6) (h : Has s p (sepT j)) (hlt : p + (sepT j).size < s.size) (hv : vsB (byteAt s (p + (sepT j).size))) : Leads s p p stk (plainT 163) (p + (sepT j).size) (p + (sepT j).size) stk (plainT 174) := by
  obtain ⟨v1, v2, v3⟩ := hv
  match j, hj with
  | 0, _ =>
    have hle : p + 3 < s.size := hlt
    have b0 : byteAt s p = 32 := h.at 0 (by decide)
    have b1 : byteAt s (p + 1) = 61 := h.at 1 (by decide)
    have b2 : byteAt s (p + 2) = 32 := h.at 2 (by decide)
    exact (((ld_ke_sp (by omega) (by rw [b0]; rfl)).trans (ld_skip 163)).trans ((ld_ke_sep (by omega) (by rw [b1]; rfl) (by rw [b1]; rfl)).trans (ld_skip 174))).trans ((ld_val_ws (by omega) (by rw [show p + 1 + 1 = p + 2 from rfl, b2]; rfl)).trans (ld_skip 174))
  | 1, _ =>
    have hle : p + 1 < s.size := hlt
    have b0 : byteAt s p = 61 := h.at 0 (by decide)
    exact (ld_ke_sep (by omega) (by rw [b0]; rfl) (by rw [b0]; rfl)).trans (ld_skip 174)
  | 2, _ =>
    have hle : p + 2 < s.size := hlt
    have b0 : byteAt s p = 58 := h.at 0 (by decide)
    have b1 : byteAt s (p + 1) = 32 := h.at 1 (by decide)
    exact ((ld_ke_sep (by omega) (by rw [b0]; rfl) (by rw [b0]; rfl)).trans (ld_skip 174)).trans ((ld_val_ws (by omega) (by rw [b1]; rfl)).trans (ld_skip 174))
  | 3, _ =>
    have hle : p + 1 < s.size := hlt
    have b0 : byteAt s p = 58 := h.at 0 (by decide)
    exact (ld_ke_sep (by omega) (by rw [b0]; rfl) (by rw [b0]; rfl)).trans (ld_skip 174)
  | 4, _ =>
    have hle : p + 1 < s.size := hlt
    have b0 : byteAt s p = 32 := h.at 0 (by decide)
    exact ((ld_ke_sp (by omega) (by rw [b0]; rfl)).trans (ld_skip 163)).trans (ld_ke_other hle v1 v2 v3)
  | 5, _ =>
    have hle : p + 3 < s.size := hlt
    have b0 : byteAt s p = 32 := h.at 0 (by decide)
    have b1 : byteAt s (p + 1) = 32 := h.at 1 (by decide)
    have b2 : byteAt s (p + 2) = 32 := h.at 2 (by decide)
    exact (((ld_ke_sp (by omega) (by rw [b0]; rfl)).trans (ld_skip 163)).trans ((ld_ke_sp (by omega) (by rw [b1]; rfl)).trans (ld_skip 163))).trans (((ld_ke_sp (by omega) (by rw [show p + 1 + 1 = p + 2 from rfl, b2]; rfl)).trans (ld_skip 163)).trans (ld_ke_other hle v1 v2 v3))
theorem sep_first (j : Nat) (hj : j < 6) : 0 < (sepT j).size ∧ (isSp (byteAt (sepT j) 0) = true ∨ (isSp (byteAt (sepT j) 0) = false ∧ isSep (byteAt (sepT j) 0) = true)) := by
  match j, hj with
  | 0, _ => decide
  | 1, _ => decide
  | 2, _ => decide
  | 3, _ => decide
  | 4, _ => decide
  | 5, _ => decide
/-- A key at the top, up to its value. -/
theorem fd_key {k Kt : ByteArray} (hK : K.ped = false) (hsp : KeySp k Kt) (hkw : noKw k) (j : Nat) (hj : j < 6) (h : Has s p (Kt ++ sepT j)) (hlt : p + (Kt.size + (sepT j).size) < s.size) (hv : vsB (byteAt s (p + (Kt.size + (sepT j).size)))) (hl : stk.length ≤ 900000) (hlk : ks.length ≤ 1000000)
    (rest : Fd K s (p + (Kt.size + (sepT j).size)) (p + (Kt.size + (sepT j).size)) (stk ++ [94]) (plainT 174) cx (ks ++ [k]) 3 fin) : Fd K s p p stk (plainT 60) cx ks pt fin := by
  have hK1 := h.left
  have hS := h.right
  rw [← Nat.add_assoc] at hlt hv rest
  have hwk : ∀ (L : LX) (x : It), x.typ = 3 → x.val = k → Works K ⟨L, cx, ks⟩ x ⟨L, cx, ks ++ [k]⟩ := fun L x h1 h2 => by
    have := works_key (cx := cx) (ks := ks) hK L x h1 hlk
    rwa [h2] at this
  have hsf := sep_first j hj
  have hls := ld_sep (stk := stk ++ [94]) j hj hS hlt hv
  cases hsp with
  | dq hP =>
    have h0 := hK1.left.left
    have ht : Has s (p + 1) k := hK1.left.right
    have he := hK1.right
    have hz : ((⟨#[34]⟩ : ByteArray) ++ k).size = k.size + 1 := by rw [ByteArray.size_append]; show 1 + k.size = _; omega
    have hz2 : ((⟨#[34]⟩ : ByteArray) ++ k ++ ⟨#[34]⟩).size = k.size + 2 := by rw [ByteArray.size_append, hz]; rfl
    rw [hz] at he
    rw [hz2] at hlt hls rest
    have e0 : byteAt s p = 34 := h0.at 0 (by decide)
    have e1 : byteAt s (p + (k.size + 1)) = 34 := he.at 0 (by decide)
    have l0 : Leads s p p stk (plainT 60) p p (stk ++ [94]) (plainT 95) := ld_top_key (by omega) (by omega) (by rw [e0]; rfl) (by rw [e0]; decide) (by rw [e0]; decide) (by rw [e0]; decide) (by rw [e0]; decide)
    have l1 : Leads s p p (stk ++ [94]) (plainT 95) (p + 1) (p + 1) (stk ++ [94]) (plainT 137) := (ld_ks_dq (by omega) e0).trans (ld_skip 137)
    have l2 := leads_run (s := s) (p := p + 1) (st := p + 1) (stk := stk ++ [94]) (f := 137) (Q := fun c => c ≠ 34 ∧ c ≠ 0) (fun p hp hq => ld_dqk_ch hp hq.1 hq.2) k.size (by omega) (fun i hi => by
      rw [ht.at i hi]
      have hq := hP i hi
      have h34 := hq.2.2 0 (by decide)
      rw [show byteAt q4 0 = 34 from rfl] at h34
      exact ⟨h34, by omega⟩)
    have E := ld_dqk_end (s := s) (p := p + 1 + k.size) (st := p + 1) (stk := stk ++ [94]) (by omega) (by omega) (by rw [show p + 1 + k.size = p + (k.size + 1) from by omega]; exact e1)
    rw [ht.ext] at E
    refine Fd.lead (l0.trans (l1.trans l2)) (Fd.step E (by decide) (fun L x h1 h2 _ => hwk L x h1 h2) (Fd.lead ((ld_skip 163).trans ?_) rest))
    rw [show p + 1 + k.size + 1 = p + (k.size + 2) from by omega]
    exact hls
  | sq hP =>
    have h0 := hK1.left.left
    have ht : Has s (p + 1) k := hK1.left.right
    have he := hK1.right
    have hz : ((⟨#[39]⟩ : ByteArray) ++ k).size = k.size + 1 := by rw [ByteArray.size_append]; show 1 + k.size = _; omega
    have hz2 : ((⟨#[39]⟩ : ByteArray) ++ k ++ ⟨#[39]⟩).size = k.size + 2 := by rw [ByteArray.size_append, hz]; rfl
    rw [hz] at he
    rw [hz2] at hlt hls rest
    have e0 : byteAt s p = 39 := h0.at 0 (by decide)
    have e1 : byteAt s (p + (k.size + 1)) = 39 := he.at 0 (by decide)
    have l0 : Leads s p p stk (plainT 60) p p (stk ++ [94]) (plainT 95) := ld_top_key (by omega) (by omega) (by rw [e0]; rfl) (by rw [e0]; decide) (by rw [e0]; decide) (by rw [e0]; decide) (by rw [e0]; decide)
    have l1 : Leads s p p (stk ++ [94]) (plainT 95) (p + 1) (p + 1) (stk ++ [94]) (plainT 138) := (ld_ks_sq (by omega) e0).trans (ld_skip 138)
    have l2 := leads_run (s := s) (p := p + 1) (st := p + 1) (stk := stk ++ [94]) (f := 138) (Q := fun c => c ≠ 39 ∧ c ≠ 0) (fun p hp hq => ld_sqk_ch hp hq.1 hq.2) k.size (by omega) (fun i hi => by
      rw [ht.at i hi]
      have hq := hP i hi
      have h39 := hq.2.2 3 (by decide)
      rw [show byteAt q4 3 = 39 from rfl] at h39
      exact ⟨h39, by omega⟩)
    have E := ld_sqk_end (s := s) (p := p + 1 + k.size) (st := p + 1) (stk := stk ++ [94]) (by omega) (by omega) (by rw [show p + 1 + k.size = p + (k.size + 1) from by omega]; exact e1)
    rw [ht.ext] at E
    refine Fd.lead (l0.trans (l1.trans l2)) (Fd.step E (by decide) (fun L x h1 h2 _ => hwk L x h1 h2) (Fd.lead ((ld_skip 163).trans ?_) rest))
    rw [show p + 1 + k.size + 1 = p + (k.size + 2) from by omega]
    exact hls
  | bare hB =>
    have hpos := hB.pos
    have e0 : byteAt s p = byteAt k 0 := hK1.at 0 hpos
    have hl0 : letB (byteAt k 0) := by
      rcases hB.bytes 0 hpos with h | h
      · exact h
      · exact absurd rfl h.1
    have hcls : ∀ c, letB c ∨ goodB c → isSp c = false ∧ isSep c = false ∧ c ≠ 0 := fun c hc => by
      unfold letB goodB at hc
      refine ⟨?_, ?_, by omega⟩
      · simp [isSp]; omega
      · simp [isSep]; omega
    have hc0 := hcls _ (.inl hl0)
    have hne : byteAt k 0 ≠ 123 ∧ byteAt k 0 ≠ 35 ∧ byteAt k 0 ≠ 47 ∧ byteAt k 0 ≠ 34 ∧ byteAt k 0 ≠ 39 := by unfold letB at hl0; omega
    have l0 : Leads s p p stk (plainT 60) p p (stk ++ [94]) (plainT 95) := ld_top_key (by omega) (by omega) (by rw [e0]; exact hc0.1) (by rw [e0]; exact hne.1) (by rw [e0]; exact hne.2.1) (by rw [e0]; exact hne.2.2.1) (by rw [e0]; exact hc0.2.2)
    have l1 : Leads s p p (stk ++ [94]) (plainT 95) (p + 1) p (stk ++ [94]) (plainT 139) := ld_ks_key (by omega) (by rw [e0]; exact hc0.2.1) (by rw [e0]; exact hc0.1) (by rw [e0]; exact hne.2.2.2.1) (by rw [e0]; exact hne.2.2.2.2)
    have l2 := leads_run (s := s) (p := p + 1) (st := p) (stk := stk ++ [94]) (f := 139) (Q := fun c => isSp c = false ∧ isSep c = false ∧ c ≠ 0) (fun p hp hq => ld_key_more hp hq.1 hq.2.1 hq.2.2) (k.size - 1) (by omega) (fun i hi => by
      rw [show p + 1 + i = p + (i + 1) from by omega, hK1.at (i + 1) (by omega)]
      rcases hB.bytes (i + 1) (by omega) with h | h
      · exact hcls _ (.inl h)
      · exact hcls _ (.inr h.2))
    rw [show p + 1 + (k.size - 1) = p + k.size from by omega] at l2
    have es := hS.at 0 hsf.1
    rw [Nat.add_zero] at es
    have hx := hK1.ext
    refine Fd.lead (l0.trans (l1.trans l2)) ?_
    rcases hsf.2 with h1 | ⟨h1, h2⟩
    · have E := ld_key_sp (s := s) (p := p + k.size) (st := p) (stk := stk ++ [94]) (by omega) (by omega) (by rw [es]; exact h1) (by rw [hx]; exact hkw)
      rw [hx] at E
      exact Fd.step E (by decide) (fun L x h1 h2 _ => hwk L x h1 h2) (Fd.lead hls rest)
    · have E := ld_key_sep (s := s) (p := p + k.size) (st := p) (stk := stk ++ [94]) (by omega) (by omega) (by rw [es]; exact h1) (by rw [es]; exact h2)
      rw [hx] at E
      exact Fd.step E (by decide) (fun L x h1 h2 _ => hwk L x h1 h2) (Fd.lead hls rest)
end
end Go.Cf

/-
  processItem: the ends of maps and lists.
-/
namespace Go.Cf
open Go.RowKit Go.Conc Go.Proofs
section
variable {B : Nat} {lab lab1 : Lab} {w w1 : World} {K : PK} {X X' : PX} {M : Nat → Prop} {L : LX} {c2 : CJ} {cs : List CJ} {ks : List ByteArray}
set_option maxRecDepth 100000 in
set_option maxHeartbeats 400000 in
/-- The innermost context is popped; it is handed back, its blocks as they were. -/
theorem popTop_c (c c2 : CJ) (cs : List CJ) {top cv kv : Value} {vs : List Value} (h : PAtX B lab w K X top cv kv vs) (hcx : X.cx = c :: c2 :: cs) (hlen : cs.length ≤ 1000000) :
    Calls Tryz.prog 66 #[.pointer (some ⟨K.p, 0, none⟩)] w fun e w' => e = .returned top ∧ CAt B (11 + cs.length) lab w' c top ∧ PAt B lab w' K { X with cx := c2 :: cs } ∧ Mv (· = 2) w lab w' lab := by
  have hcs := h.cs
  rw [hcx] at hcs
  obtain ⟨v, v2, vs', rfl⟩ : ∃ v v2 vs', vs = v :: v2 :: vs' := by
    match vs, hcs with
    | v :: v2 :: vs', _ => exact ⟨v, v2, vs', rfl⟩
    | [_], h => exact h.2.elim
  have hvl : vs'.length = cs.length := hcs.2.2.length
  obtain rfl : top = v := by
    rcases h.top with h | h
    · exact (Option.some.inj h).symm
    · cases h
  have hown := h.cv
  simp only [List.length_cons, List.reverse_cons, List.append_assoc, List.cons_append, List.nil_append] at hown
  obtain ⟨g, cap, rfl, hcap, hmx, hcell, cur, hgb⟩ := own_open hown.1 (by omega)
  have hl1 := hcell (vs'.length + 1) top (by simp)
  have hl2 := hcell vs'.length v2 (by simp)
  have hown2 := Rw.shorter (m := vs'.length + 1) (xs := vs'.reverse ++ [v2]) (ys := [top]) (by simpa using hown) (by simp) (by omega)
  have c3 : w.cell? ⟨K.p, 3, none⟩ = some (.slice (some ⟨g, 0, none⟩) (vs'.length + 1 + 1) cap) := h.cl.cell 3
  have f3 : w.frozen? ⟨K.p, 3, none⟩ = false := h.cl.free 3
  have c2' : w.cell? ⟨K.p, 2, none⟩ = some top := h.cl.cell 2
  have f2' : w.frozen? ⟨K.p, 2, none⟩ = false := h.cl.free 2
  have hne : g ≠ K.p := (h.cl.ne (hown.2 g rfl) (by decide)).symm
  have m23 : Mv (· = 2) w lab ((w.setCell ⟨K.p, 3, none⟩ (.slice (some ⟨g, 0, none⟩) (vs'.length + 1) cap)).setCell ⟨K.p, 2, none⟩ v2) lab := (Mv.setCell _ _ _ _ h.cl.2).trans (Mv.setCell _ _ _ _ h.cl.2) (fun _ h => h)
  have key : PAt B lab ((w.setCell ⟨K.p, 3, none⟩ (.slice (some ⟨g, 0, none⟩) (vs'.length + 1) cap)).setCell ⟨K.p, 2, none⟩ v2) K { X with cx := c2 :: cs } := by
    refine ⟨v2, .slice (some ⟨g, 0, none⟩) (vs'.length + 1) cap, kv, v2 :: vs', ?_⟩
    exact {
      cl := (h.cl.set 3 _).set 2 _
      lx := h.lx.mv m23 (by decide)
      cv := by simpa using hown2.mv m23 (by decide)
      kv := h.kv.mv m23 (by decide)
      cs := hcs.2.mv m23 (by decide) (fun i _ => by omega)
      top := .inl rfl
      root := fun u hu => h.root u (by simpa using hu) }
  have kc : CAt B (11 + cs.length) lab ((w.setCell ⟨K.p, 3, none⟩ (.slice (some ⟨g, 0, none⟩) (vs'.length + 1) cap)).setCell ⟨K.p, 2, none⟩ v2) c top := by
    have := hcs.1.mv m23 (by simp; omega) (by decide)
    simpa [Nat.add_comm, Nat.add_left_comm, ← Nat.add_assoc] using this
  obtain ⟨t2, u2, rfl⟩ : ∃ t u, v2 = .iface t u := hcs.2.1.form
  obtain ⟨t1, u1, rfl⟩ : ∃ t u, top = .iface t u := hcs.1.form
  clear hown hown2 h hcell hgb hcs
  have hpos : ((vs'.length : Int) + 1 + 1 == 0) = false := by simp; omega
  have hc2 : vs'.length + 1 ≤ cap := by omega
  unfold maxLen at hmx
  have HK := Lib.hid hcx
  have HV := Lib.hid hvl
  have hsm : (vs'.length : Int) < 9223372036854775808 := by omega
  have hw : IntKind.wrap .i64 ((vs'.length : Nat) : Int) = ((vs'.length : Nat) : Int) := by
    simp [IntKind.wrap, IntKind.bits, IntKind.signed]
    omega
  have i0 : (0 : Int) ≤ ((vs'.length : Nat) : Int) := by omega
  have i1 : ((vs'.length : Nat) : Int) < ((vs'.length : Nat) : Int) + 1 := by omega
  have i2 : ((vs'.length : Nat) : Int) < ((vs'.length + 1 : Nat) : Int) := by omega
  clear hcx hvl
  go_enter Tryz.func66, Tryz.ntmps66
  go_wp2
  refine wp_still_tail 15 mixed (by kernel_rfl) ?_
  simp only [List.take_succ_cons, List.take_zero, List.drop_succ_cons, List.drop_zero]
  repeat still_step
  refine wpStill_nil ?_
  go_wp2
  go_ret
  have md : ∀ W, Mv (fun _ => False) W lab W.drew lab := fun W => Mv.aDraw _ W lab
  exact ⟨rfl, kc.mv (md _) (fun h => h) (fun h => h), key.mv (md _) (fun _ _ h => h), m23.trans (md _) (fun _ h => h.elim)⟩
set_option maxRecDepth 100000 in
set_option maxHeartbeats 1000000 in
theorem item_mapend (m : List (ByteArray × JV)) (h : PAt B lab w K ⟨L, .map m :: c2 :: cs, ks⟩) (hB : B ≤ w.heap.size) (hped : K.ped = false) (hlen : cs.length ≤ 1000000) (xv : ByteArray) (xl xp : Int) (hs : (⟨L, c2 :: cs, ks⟩ : PX).Sets (CJ.map m).jv X') :
    Calls Tryz.prog 57 #[.pointer (some ⟨K.p, 0, none⟩), .agg #[i64 (13 : Nat), .string xv, i64 xl, i64 xp], .string { data := #[] }] w fun e w' => e = .returned .nilIface ∧ ∃ lab', PAt B lab' w' K X' ∧ Mv PM w lab w' lab' := by
  obtain ⟨lab1, hb, m1⟩ := h.boxed hB 13 xv xl xp
  have md : Mv (fun _ => False) (Boxed w K 13 xv xl xp) lab1 (Boxed w K 13 xv xl xp).drew lab1 := Mv.aDraw _ _ _
  have hbd := hb.mv (hb.pat.mv md (fun _ _ h => h)) (md.mono (fun _ h => h.elim))
  obtain ⟨top, cv, kv, vs, hx⟩ := id hbd.pat
  have HP := Lib.hid (popTop_c (.map m) c2 cs hx rfl hlen)
  have HB := Lib.hid hbd
  have HM := Lib.hid (m1.trans md (fun _ h => h.elim))
  have d0 : (Boxed w K 13 xv xl xp).drew.cell? ⟨w.heap.size, 0, none⟩ = some (.pointer (some ⟨K.p, 0, none⟩)) := hbd.b0.cell 0
  have d1 : (Boxed w K 13 xv xl xp).drew.cell? ⟨w.heap.size + 1, 0, none⟩ = some (i64 (13 : Nat)) := hbd.b1.cell 0
  have d2 : (Boxed w K 13 xv xl xp).drew.cell? ⟨w.heap.size + 1, 1, none⟩ = some (.string xv) := hbd.b1.cell 1
  have d3 : (Boxed w K 13 xv xl xp).drew.cell? ⟨w.heap.size + 1, 2, none⟩ = some (i64 xl) := hbd.b1.cell 2
  have d4 : (Boxed w K 13 xv xl xp).drew.cell? ⟨w.heap.size + 1, 3, none⟩ = some (i64 xp) := hbd.b1.cell 3
  clear hx hbd hb m1 md
  go_enter Tryz.func57, Tryz.ntmps57
  go_wp2_with fail
  go_region_law (first
    | (go_simp
       go_at_call 66
       refine HP.out.mono ?_
       rintro e w5 ⟨rfl, hc, hp, m5⟩
       obtain ⟨hr, mr⟩ := hp.relab (11 + cs.length) (by simp only [List.length_cons]; omega)
       have hj := hc.close (by omega)
       obtain ⟨t, u, rfl⟩ := hc.form
       have m05 := (m5.mono (M' := PM) (fun x hx => by subst hx; decide)).trans mr (fun _ h => h)
       have HC := Lib.hid (lay_c hr (Nat.le_trans HB.out.hB m5.size) hped hs t u hj _ (w.heap.size + 1 + 1) (HB.out.b0.mv m05 (by simp [PM])) 13 xv xl xp)
       have HMM := Lib.hid (HM.out.trans m05 (fun _ h => h))
       have f1 : w5.cell? ⟨w.heap.size + 1, 0, none⟩ = some (i64 (13 : Nat)) := (HB.out.b1.mv m05 (by simp [PM])).cell 0
       have f2 : w5.cell? ⟨w.heap.size + 1, 1, none⟩ = some (.string xv) := (HB.out.b1.mv m05 (by simp [PM])).cell 1
       have f3 : w5.cell? ⟨w.heap.size + 1, 2, none⟩ = some (i64 xl) := (HB.out.b1.mv m05 (by simp [PM])).cell 2
       have f4 : w5.cell? ⟨w.heap.size + 1, 3, none⟩ = some (i64 xp) := (HB.out.b1.mv m05 (by simp [PM])).cell 3
       clear hc hp m5 hr mr hj m05)
    | (go_simp
       go_at_call 62
       refine HC.out.mono ?_
       rintro e w6 ⟨rfl, lab6, h6, m6⟩))
  all_goals
    go_wp2
    go_ret
    exact ⟨rfl, lab6, h6, HMM.out.trans m6 (fun _ h => h)⟩
end
end Go.Cf

/-
  processItem: the end of a list.
-/
namespace Go.Cf
open Go.RowKit Go.Conc Go.Proofs
section
variable {B : Nat} {lab lab1 : Lab} {w w1 : World} {K : PK} {X X' : PX} {M : Nat → Prop} {L : LX} {c2 : CJ} {cs : List CJ} {ks : List ByteArray}
set_option maxRecDepth 100000 in
set_option maxHeartbeats 1000000 in
theorem item_listend (l : List JV) (h : PAt B lab w K ⟨L, .arr l :: c2 :: cs, ks⟩) (hB : B ≤ w.heap.size) (hped : K.ped = false) (hlen : cs.length ≤ 1000000) (xv : ByteArray) (xl xp : Int) (hs : (⟨L, c2 :: cs, ks⟩ : PX).Sets (CJ.arr l).jv X') :
    Calls Tryz.prog 57 #[.pointer (some ⟨K.p, 0, none⟩), .agg #[i64 (11 : Nat), .string xv, i64 xl, i64 xp], .string { data := #[] }] w fun e w' => e = .returned .nilIface ∧ ∃ lab', PAt B lab' w' K X' ∧ Mv PM w lab w' lab' := by
  obtain ⟨lab1, hb, m1⟩ := h.boxed hB 11 xv xl xp
  obtain ⟨top, cv, kv, vs, hx⟩ := id hb.pat
  have HP := Lib.hid (popTop_c (.arr l) c2 cs hx rfl hlen)
  have HB := Lib.hid hb
  have HM := Lib.hid m1
  have c2' : (((w.alloc (.cells #[.pointer (some ⟨K.p, 0, none⟩)] 71)).alloc (.cells #[i64 11, .string xv, i64 xl, i64 xp] 98)).alloc (.cells #[.string { data := #[] }] 9)).cell? ⟨K.p, 2, none⟩ = some top := hx.cl.cell 2
  have d0 : (((w.alloc (.cells #[.pointer (some ⟨K.p, 0, none⟩)] 71)).alloc (.cells #[i64 11, .string xv, i64 xl, i64 xp] 98)).alloc (.cells #[.string { data := #[] }] 9)).cell? ⟨w.heap.size, 0, none⟩ = some (.pointer (some ⟨K.p, 0, none⟩)) := hb.b0.cell 0
  clear hx hb m1
  go_enter Tryz.func57, Tryz.ntmps57
  go_wp2_with fail
  refine HP.out.mono ?_
  rintro e w5 ⟨rfl, hc, hp, m5⟩
  obtain ⟨hr, mr⟩ := hp.relab (11 + cs.length) (by simp only [List.length_cons]; omega)
  have hj := hc.close (by omega)
  obtain ⟨t, u, rfl⟩ := hc.form
  have m05 := (m5.mono (M' := PM) (fun x hx => by subst hx; decide)).trans mr (fun _ h => h)
  have HC := Lib.hid (lay_c hr (Nat.le_trans HB.out.hB m5.size) hped hs t u hj _ (w.heap.size + 1 + 1) (HB.out.b0.mv m05 (by simp [PM])) 11 xv xl xp)
  have HMM := Lib.hid (HM.out.trans m05 (fun _ h => h))
  have f1 : w5.cell? ⟨w.heap.size + 1, 0, none⟩ = some (i64 (11 : Nat)) := (HB.out.b1.mv m05 (by simp [PM])).cell 0
  have f2 : w5.cell? ⟨w.heap.size + 1, 1, none⟩ = some (.string xv) := (HB.out.b1.mv m05 (by simp [PM])).cell 1
  have f3 : w5.cell? ⟨w.heap.size + 1, 2, none⟩ = some (i64 xl) := (HB.out.b1.mv m05 (by simp [PM])).cell 2
  have f4 : w5.cell? ⟨w.heap.size + 1, 3, none⟩ = some (i64 xp) := (HB.out.b1.mv m05 (by simp [PM])).cell 3
  clear hc hp m5 hr mr hj m05 c2' d0
  go_wp2_with fail
  refine HC.out.mono ?_
  rintro e w6 ⟨rfl, lab6, h6, m6⟩
  go_wp2
  go_ret
  exact ⟨rfl, lab6, h6, HMM.out.trans m6 (fun _ h => h)⟩
end
end Go.Cf

/-
  A variable that there is: lookupVariable.
-/
namespace Go.Cf
open Go.RowKit Go.Conc Go.Proofs Go.Maps
theorem nt_61_61b (u : Value) (w : World) : (Instr.typeAssert (.iface 61 u) 20 61 true).run Tryz.prog w = .ok (.tuple #[u, .bool true]) w := by kernel_rfl
theorem nt_75_61b (u : Value) (w : World) : (Instr.typeAssert (.iface 75 u) 20 61 true).run Tryz.prog w = .ok (.tuple #[.map none, .bool false]) w := by kernel_rfl
attribute [local go_sem ↓] nt_61_61b nt_75_61b
/-- What a map has at a key. -/
def lookM (s : ByteArray) (m : List (ByteArray × JV)) : Option JV := (m.find? (fun x => x.1.data.toList == s.data.toList)).map (·.2)
/-- .. and what the innermost map has that has the key. -/
def lookCx (s : ByteArray) : List CJ → Option JV
  | [] => none
  | .map m :: cs => match lookM s m with
    | some j => some j
    | none => lookCx s cs
  | .arr _ :: cs => lookCx s cs
theorem any_find {α : Type} (p : α → Bool) : ∀ l : List α, l.any p = (l.find? p).isSome
  | [] => rfl
  | a :: l => by
    rw [List.any_cons, List.find?_cons]
    cases h : p a with
    | true => rfl
    | false => exact (Bool.false_or _).trans (any_find p l)
section
variable {B ℓ b : Nat} {lab : Lab} {w : World} {K : PK} {X : PX} {t : List Ent} {s : ByteArray}
theorem ent_look (h : Mp ℓ lab w b t) (hs : s.size ≤ maxLen) : (∃ x, t.find? (fun x => x.1.data.toList == s.data.toList) = some x ∧ (Instr.lookup 61 (.map (some b)) (.string s) true).run Tryz.prog w = .ok (.tuple #[x.2.2, .bool true]) w) ∨
    (t.find? (fun x => x.1.data.toList == s.data.toList) = none ∧ (Instr.lookup 61 (.map (some b)) (.string s) true).run Tryz.prog w = .ok (.tuple #[.nilIface, .bool false]) w) := by
  have hkey := WideMaps.keyOf_string_mk (P := Tryz.prog) Tryz.underlying9 hs
  obtain ⟨v, ps, hr, hv⟩ := h.1.look_ok (Maps.string_keyed Tryz.underlying9) Tryz.underlying61 (zero20 w) (zd := .held .nilIface) (zp := []) rfl hkey
  have hf : (t.map fun x => ((Lit.string x.1.data.toList, DataW.held x.2.2) : Lit × DataW Value)).find? (fun p => p.1.sameKey (.string s.data.toList)) = (t.find? (fun x => x.1.data.toList == s.data.toList)).map fun x => ((Lit.string x.1.data.toList, DataW.held x.2.2) : Lit × DataW Value) := by
    rw [List.find?_map]
    rfl
  have hv' : some (DataW.held v, ([] : List MemPlace)) = some ((entD t).atKey (.string s.data.toList) (.held .nilIface), ps) := hv
  have hva : DataW.held v = (entD t).atKey (.string s.data.toList) (.held .nilIface) := (Prod.mk.inj (Option.some.inj hv')).1
  unfold entD DataW.atKey at hva
  simp only at hva
  rw [hf] at hva
  have hh : Maps.has (entD t) (.string s.data.toList) = (t.find? (fun x => x.1.data.toList == s.data.toList)).isSome := by
    show List.any _ _ = _
    rw [any_find, hf]
    cases t.find? (fun x => x.1.data.toList == s.data.toList) <;> rfl
  rw [hh] at hr
  cases hx : t.find? (fun x => x.1.data.toList == s.data.toList) with
  | some x =>
    rw [hx] at hva hr
    simp only [Option.map_some, DataW.held.injEq] at hva
    subst hva
    exact .inl ⟨x, rfl, hr⟩
  | none =>
    rw [hx] at hva hr
    simp only [Option.map_none, DataW.held.injEq] at hva
    subst hva
    exact .inr ⟨rfl, hr⟩
theorem CsAt.at : ∀ {cs : List CJ} {vs : List Value} (d : Nat) {c : CJ}, CsAt B lab w cs vs → cs[d]? = some c → ∃ v, vs[d]? = some v ∧ CAt B (10 + (cs.length - 1 - d)) lab w c v
  | c :: cs, v :: vs, 0, _, h, e => by
    simp only [List.getElem?_cons_zero, Option.some.injEq] at e
    subst e
    exact ⟨v, rfl, by simpa using h.1⟩
  | c :: cs, v :: vs, d + 1, _, h, e => by
    obtain ⟨u, h1, h2⟩ := CsAt.at d h.2 (by simpa using e)
    refine ⟨u, by simpa using h1, ?_⟩
    rwa [show (c :: cs).length - 1 - (d + 1) = cs.length - 1 - d from by simp; omega]
  | [], [], _, _, _, e => by simp at e
  | [], _ :: _, _, _, h, _ => h.elim
  | _ :: _, [], _, _, h, _ => h.elim
theorem drop_cons {α : Type} {l : List α} {d : Nat} {c : α} (h : l[d]? = some c) : l.drop d = c :: l.drop (d + 1) := by
  have hd := (List.getElem?_eq_some_iff.1 h).1
  rw [List.drop_eq_getElem_cons hd, (List.getElem?_eq_some_iff.1 h).2]
set_option maxRecDepth 100000 in
set_option maxHeartbeats 4000000 in
theorem lookup_some (h : PAt B lab w K X) (hn : X.cx.length ≤ 1000000) (s : ByteArray) (hs : s.size ≤ 1000000) (hp : Lib.hasPrefix s.data.toList [50, 97, 36] = false) (j : JV) (hj : lookCx s X.cx = some j) :
    Calls Tryz.prog 72 #[.pointer (some ⟨K.p, 0, none⟩), .string s] w fun e w' => (∃ v, e = .returned (.tuple #[v, .bool true, .nilIface]) ∧ isJ B lab w j v) ∧ w' = w := by
  obtain ⟨top, cv, kv, vs, h⟩ := h
  have hlen : vs.length = X.cx.length := h.cs.length
  have hpos : 0 < X.cx.length := by
    cases hc : X.cx with
    | nil => rw [hc] at hj; cases hj
    | cons a r => simp
  obtain ⟨g, cap, rfl, hcap, hmx, hcell, cur, hgb⟩ := own_open h.cv.1 (by omega)
  obtain ⟨n, hnn⟩ : ∃ n, n = X.cx.length := ⟨_, rfl⟩
  have c3 : w.cell? ⟨K.p, 3, none⟩ = some (.slice (some ⟨g, 0, none⟩) n cap) := by have := h.cl.cell 3; rwa [hlen, ← hnn] at this
  have hms : s.size ≤ maxLen := by unfold maxLen; omega
  have HCS := Lib.hid h.cs
  have HCL := Lib.hid hcell
  have HL := Lib.hid hlen
  have HNN := Lib.hid hnn
  have hn0 : 0 < n := by omega
  have hn6 : n ≤ 1000000 := by omega
  have hp2 : (Lib.hasPrefix s.data.toList (⟨#[50, 97, 36]⟩ : ByteArray).data.toList) = false := hp
  have HJ := Lib.hid hj
  clear hcell hgb hmx h hp hlen hn hj hpos hnn
  refine calls_of_wp_b Tryz.func72 rfl ?_
  simp only [Tryz.ntmps72, List.size_toArray, List.length_cons, List.length_nil, Nat.reduceAdd, Nat.reduceSub, Array.replicate_succ, Array.replicate_zero, List.push_toArray, List.append_toArray, List.nil_append, List.cons_append]
  go_wp2_with fail
  refine (Tryz.strings_HasPrefix s _ _).mono ?_
  rintro e w1 ⟨rfl, rfl⟩
  rw [hp2]
  go_wp2_with fail
  go_loopw [7] (fun i wr => (∃ d : Nat, d ≤ n ∧ i = .int .i64 ((n : Int) - 1 - d) ∧ lookCx s (X.cx.drop d) = some j) ∧ wr = w1) (fun i _ => (RowKit.intOf i + 1).toNat)
  case atStart => exact ⟨⟨0, Nat.zero_le _, by simp, HJ.out⟩, rfl⟩
  case round =>
    obtain ⟨⟨d, hd, rfl, hjd⟩, hwr⟩ := hrel
    have hwr' := hwr.symm
    clear hwr
    subst hwr'
    have hdn : d < n := by
      rcases Nat.lt_or_ge d n with h | h
      · exact h
      · have hle : X.cx.length ≤ d := by have := HNN.out; omega
        rw [List.drop_eq_nil_of_le hle] at hjd
        cases hjd
    obtain ⟨c, hc⟩ : ∃ c, X.cx[d]? = some c := ⟨_, List.getElem?_eq_getElem (by have := HNN.out; omega)⟩
    rw [drop_cons hc] at hjd
    obtain ⟨v, hv, hcat⟩ := CsAt.at d HCS.out hc
    obtain ⟨i, hi⟩ : ∃ i : Nat, i = n - 1 - d := ⟨_, rfl⟩
    have hii : (n : Int) - 1 - d = (i : Int) := by omega
    have q : w1.cell? ⟨g, i, none⟩ = some v := by
      refine HCL.out i v ?_
      have hl := HL.out
      have hN := HNN.out
      rw [List.getElem?_reverse (by omega), show vs.length - 1 - i = d from by omega]
      exact hv
    have hin : (i : Int) < (n : Int) := by omega
    have hstep : (n : Int) - 1 - ((d + 1 : Nat) : Int) = (i : Int) - 1 := by omega
    rw [hii]
    have HST := Lib.hid hstep
    have HDI := Lib.hid (And.intro hi hdn)
    clear hi hii hv hstep
    cases c with
    | arr l =>
      obtain ⟨s', xs, rfl, _, _⟩ := hcat
      have HJD := Lib.hid hjd
      clear hjd
      go_wp2
      go_roundw
      case rel => exact ⟨⟨d + 1, by omega, by rw [HST.out], HJD.out⟩, trivial⟩
      case measure => simp [RowKit.intOf]
    | map m =>
      obtain ⟨b, t, rfl, hmp, ht, hjs⟩ := hcat
      rcases ent_look hmp hms with ⟨x, hx, hr⟩ | ⟨hx, hr⟩
      · have hjx : j = x.2.1 ∧ isJ B lab w1 x.2.1 x.2.2 := by
          have hm : lookM s m = some x.2.1 := by
            unfold lookM
            rw [← ht, List.find?_map]
            show Option.map _ (Option.map _ (t.find? (fun x => x.1.data.toList == s.data.toList))) = _
            rw [hx]
            rfl
          refine ⟨?_, ?_⟩
          · simp only [lookCx, hm] at hjd
            exact (Option.some.inj hjd).symm
          · obtain ⟨k, hk, e⟩ := List.getElem_of_mem (List.mem_of_find?_eq_some hx)
            exact isJs.get k _ _ hjs (by rw [List.getElem?_map, List.getElem?_eq_getElem hk, e]; rfl) (by rw [List.getElem?_map, List.getElem?_eq_getElem hk, e]; rfl)
        have HX := Lib.hid hjx
        clear hjx hjd hjs ht hx hmp
        go_wp2_with fail
        exact ⟨_, results_tmp3 rfl _ _ _, ⟨_, rfl, by rw [HX.out.1]; exact HX.out.2⟩, rfl⟩
      · have hm : lookM s m = none := by
          unfold lookM
          rw [← ht, List.find?_map]
          show Option.map _ (Option.map _ (t.find? (fun x => x.1.data.toList == s.data.toList))) = _
          rw [hx]
          rfl
        have hjd2 : lookCx s (X.cx.drop (d + 1)) = some j := by
          simp only [lookCx, hm] at hjd
          exact hjd
        have HJD := Lib.hid hjd2
        clear hjd hjd2 hm hx ht hjs hmp
        go_wp2
        go_roundw
        case rel => exact ⟨⟨d + 1, by omega, by rw [HST.out], HJD.out⟩, trivial⟩
        case measure => simp [RowKit.intOf]
end
end Go.Cf

/-
  processItem: a variable that there is.
-/
namespace Go.Cf
open Go.RowKit Go.Conc Go.Proofs
section
variable {B : Nat} {lab : Lab} {w : World} {K : PK} {X X' : PX}
theorem isJ.form : ∀ {j : JV} {v : Value}, isJ B lab w j v → ∃ t u, v = .iface t u
  | .int _, _, h => ⟨_, _, h⟩
  | .num _, _, h => ⟨_, _, h⟩
  | .tr _, _, h => ⟨_, _, h⟩
  | .txt _, _, h => ⟨_, _, h⟩
  | .arr _, _, h => by
    simp only [isJ] at h
    obtain ⟨s, xs, h, _⟩ := h
    exact ⟨_, _, h⟩
  | .map _ _, _, h => by
    simp only [isJ] at h
    obtain ⟨b, t, h, _⟩ := h
    exact ⟨_, _, h⟩
set_option maxRecDepth 100000 in
set_option maxHeartbeats 4000000 in
theorem item_var (h : PAt B lab w K X) (hB : B ≤ w.heap.size) (hped : K.ped = false) (hn : X.cx.length ≤ 1000000) (xv : ByteArray) (xl xp : Int) (hsz : xv.size ≤ 1000000) (hp : Lib.hasPrefix xv.data.toList [50, 97, 36] = false) (j : JV) (hj : lookCx xv X.cx = some j) (hs : X.Sets j X') :
    Calls Tryz.prog 57 #[.pointer (some ⟨K.p, 0, none⟩), .agg #[i64 15, .string xv, i64 xl, i64 xp], .string { data := #[] }] w fun e w' => e = .returned .nilIface ∧ ∃ lab', PAt B lab' w' K X' ∧ Mv PM w lab w' lab' := by
  obtain ⟨lab1, hb, m1⟩ := h.boxed hB 15 xv xl xp
  have HL := Lib.hid (lookup_some hb.pat hn xv hsz hp j hj)
  have c7 : (((w.alloc (.cells #[.pointer (some ⟨K.p, 0, none⟩)] 71)).alloc (.cells #[i64 15, .string xv, i64 xl, i64 xp] 98)).alloc (.cells #[.string { data := #[] }] 9)).cell? ⟨K.p, 7, none⟩ = some (.bool false) := hb.pat.ped hped
  have d0 : (((w.alloc (.cells #[.pointer (some ⟨K.p, 0, none⟩)] 71)).alloc (.cells #[i64 15, .string xv, i64 xl, i64 xp] 98)).alloc (.cells #[.string { data := #[] }] 9)).cell? ⟨w.heap.size, 0, none⟩ = some (.pointer (some ⟨K.p, 0, none⟩)) := hb.b0.cell 0
  have HB := Lib.hid hb
  have HM := Lib.hid m1
  clear hb m1 h hj
  go_enter Tryz.func57, Tryz.ntmps57
  go_wp2_with fail
  refine HL.out.mono ?_
  rintro e w5 ⟨⟨v, rfl, hv⟩, rfl⟩
  obtain ⟨t, u, rfl⟩ := hv.form
  have HC := Lib.hid (setValue_c HB.out.pat HB.out.hB hped hs t u hv)
  clear hv HL
  unfold Boxed at *
  go_wp2_with fail
  refine HC.out.mono ?_
  rintro e w6 ⟨rfl, lab6, h6, m6⟩
  go_wp2
  go_ret
  exact ⟨rfl, lab6, h6, HM.out.trans m6 (fun _ h => h)⟩
end
end Go.Cf

/-
  What a leaf with its end feeds the parser, and what the lines of FnConfVariable feed it.
-/
namespace Go.Cf
open Go.RowKit Go.Conc Go.Proofs
section
variable {K : PK} {s : ByteArray} {p st : Nat} {stk sk : List Nat} {cx cx1 fin : List CJ} {ks ks1 : List ByteArray} {pt n : Nat} {j : JV}
theorem works_var (hK : K.ped = false) (L : LX) (x : It) (hx : x.typ = 15) (hsz : x.val.size ≤ 1000000) (hp : Lib.hasPrefix x.val.data.toList [50, 97, 36] = false) (hn : cx.length ≤ 1000000) (hj : lookCx x.val cx = some j) (hs : (⟨L, cx, ks⟩ : PX).Sets j ⟨L, cx1, ks1⟩) : Works K ⟨L, cx, ks⟩ x ⟨L, cx1, ks1⟩ := by
  intro B lab w hB h _
  obtain ⟨xt, xv, xl, xp⟩ := x
  obtain rfl : xt = 15 := hx
  exact item_var h hB hK hn xv xl xp hsz hp j hj hs
theorem works_map (L : LX) (x : It) (hx : x.typ = 12) (hl : cx.length ≤ 1000000) (hne : cx ≠ []) : Works K ⟨L, cx, ks⟩ x ⟨L, .map [] :: cx, ks⟩ := by
  intro B lab w hB h _
  obtain ⟨xt, xv, xl, xp⟩ := x
  obtain rfl : xt = 12 := hx
  exact item_map h hB hl hne xv xl xp
theorem works_list (L : LX) (x : It) (hx : x.typ = 10) (hl : cx.length ≤ 1000000) (hne : cx ≠ []) : Works K ⟨L, cx, ks⟩ x ⟨L, .arr [] :: cx, ks⟩ := by
  intro B lab w hB h _
  obtain ⟨xt, xv, xl, xp⟩ := x
  obtain rfl : xt = 10 := hx
  exact item_list h hB hl hne xv xl xp
theorem works_mapend {m : List (ByteArray × JV)} {c2 : CJ} {cs : List CJ} (hK : K.ped = false) (L : LX) (x : It) (hx : x.typ = 13) (hl : cs.length ≤ 1000000) (hs : (⟨L, c2 :: cs, ks⟩ : PX).Sets (CJ.map m).jv ⟨L, cx1, ks1⟩) : Works K ⟨L, .map m :: c2 :: cs, ks⟩ x ⟨L, cx1, ks1⟩ := by
  intro B lab w hB h _
  obtain ⟨xt, xv, xl, xp⟩ := x
  obtain rfl : xt = 13 := hx
  exact item_mapend m h hB hK hl xv xl xp hs
theorem works_listend {l : List JV} {c2 : CJ} {cs : List CJ} (hK : K.ped = false) (L : LX) (x : It) (hx : x.typ = 11) (hl : cs.length ≤ 1000000) (hs : (⟨L, c2 :: cs, ks⟩ : PX).Sets (CJ.arr l).jv ⟨L, cx1, ks1⟩) : Works K ⟨L, .arr l :: c2 :: cs, ks⟩ x ⟨L, cx1, ks1⟩ := by
  intro B lab w hB h _
  obtain ⟨xt, xv, xl, xp⟩ := x
  obtain rfl : xt = 11 := hx
  exact item_listend l h hB hK hl xv xl xp hs
/-- What ends a value at the top, newline last. -/
def endT (e : Nat) : ByteArray := match e with
  | 0 => ⟨#[10]⟩
  | 1 => ⟨#[59, 10]⟩
  | 2 => ⟨#[32, 35, 32, 101, 110, 100, 10]⟩
  | 3 => ⟨#[10, 10]⟩
  | _ => ⟨#[32, 47, 47, 32, 101, 110, 100, 10]⟩
theorem fd_end_top (e : Nat) (he : e < 5) (h : Has s p (endT e)) (hl : stk.length ≤ 1000000) (hpt : pt ≠ 3) (rest : ∀ pt', pt' ≠ 3 → Fd K s (p + (endT e).size) (p + (endT e).size) stk (plainT 60) cx ks pt' fin) : Fd K s p p stk (plainT 94) cx ks pt fin := by
  match e, he with
  | 0, _ =>
    have hle : p + 1 ≤ s.size := h.le
    have b0 : byteAt s p = 10 := h.at 0 (by decide)
    exact Fd.lead (ld_tve_nl (by omega) b0) (rest _ hpt)
  | 1, _ =>
    have hle : p + 2 ≤ s.size := h.le
    have b0 : byteAt s p = 59 := h.at 0 (by decide)
    have b1 : byteAt s (p + 1) = 10 := h.at 1 (by decide)
    exact Fd.lead (ld_tve_semi (by omega) b0) (fd_sp (by omega) (by rw [b1]; rfl) (rest _ hpt))
  | 2, _ =>
    have hle : p + 7 ≤ s.size := h.le
    have b0 : byteAt s p = 32 := h.at 0 (by decide)
    have b1 : byteAt s (p + 1) = 35 := h.at 1 (by decide)
    have b6 : byteAt s (p + 6) = 10 := h.at 6 (by decide)
    refine Fd.lead ((ld_tve_ws (by omega) (by rw [b0]; rfl) (by rw [b0]; decide) (by rw [b0]; decide)).trans (ld_tve_hash (by omega) hl b1)) (fd_cmt 4 (by omega) (by omega) (fun i hi => ?_) (by rw [show p + 1 + 1 + 4 = p + 6 from rfl]; exact b6) hl (fd_sp (by omega) (by rw [show p + 1 + 1 + 4 = p + 6 from rfl, b6]; rfl) (rest 4 (by decide))))
    rw [show p + 1 + 1 + i = p + (i + 2) from by omega, h.at (i + 2) (show i + 2 < 7 by omega)]
    exact (show ∀ i, i < 4 → isNLb (byteAt (endT 2) (i + 2)) = false ∧ byteAt (endT 2) (i + 2) ≠ 0 by decide) i hi
  | 3, _ =>
    have hle : p + 2 ≤ s.size := h.le
    have b0 : byteAt s p = 10 := h.at 0 (by decide)
    have b1 : byteAt s (p + 1) = 10 := h.at 1 (by decide)
    exact Fd.lead (ld_tve_nl (by omega) b0) (fd_sp (by omega) (by rw [b1]; rfl) (rest _ hpt))
  | 4, _ =>
    have hle : p + 8 ≤ s.size := h.le
    have b0 : byteAt s p = 32 := h.at 0 (by decide)
    have b1 : byteAt s (p + 1) = 47 := h.at 1 (by decide)
    have b2 : byteAt s (p + 1 + 1) = 47 := h.at 2 (by decide)
    have b7 : byteAt s (p + 7) = 10 := h.at 7 (by decide)
    refine Fd.lead ((ld_tve_ws (by omega) (by rw [b0]; rfl) (by rw [b0]; decide) (by rw [b0]; decide)).trans (ld_tve_slash (by omega) hl b1 b2)) (fd_cmt 4 (by omega) (by omega) (fun i hi => ?_) (by rw [show p + 1 + 1 + 1 + 4 = p + 7 from rfl]; exact b7) hl (fd_sp (by omega) (by rw [show p + 1 + 1 + 1 + 4 = p + 7 from rfl, b7]; rfl) (rest 4 (by decide))))
    rw [show p + 1 + 1 + 1 + i = p + (i + 3) from by omega, h.at (i + 3) (show i + 3 < 8 by omega)]
    exact (show ∀ i, i < 4 → isNLb (byteAt (endT 4) (i + 3)) = false ∧ byteAt (endT 4) (i + 3) ≠ 0 by decide) i hi
theorem end_tm (e : Nat) (he : e < 5) : 0 < (endT e).size ∧ tmB (byteAt (endT e) 0) := by
  unfold tmB
  match e, he with
  | 0, _ => decide
  | 1, _ => decide
  | 2, _ => decide
  | 3, _ => decide
  | 4, _ => decide
/-- A value without others in it, as it stands at the top. -/
inductive LeafSp : JV → ByteArray → Prop
  | int (v : Int) (T : ByteArray) (h : IntSp v T) : LeafSp (.int v) T
  | txt (t T : ByteArray) (h : TxtSp t false T) : LeafSp (.txt t) T
theorem leaf_first {T : ByteArray} (h : LeafSp j T) : 0 < T.size ∧ vsB (byteAt T 0) := by
  have key : ∀ c, (48 ≤ c ∧ c ≤ 57) ∨ c = 45 ∨ c = 40 ∨ c = 39 ∨ c = 34 ∨ letB c → vsB c := fun c hc => by
    unfold letB at hc
    refine ⟨?_, ?_, by omega⟩
    · simp [isSp]; omega
    · simp [isSep]; omega
  cases h with
  | int v T h =>
    obtain ⟨sg, m, sf, u, rfl, hsf, hn, hb⟩ := h
    have hu := mulB_pos hsf
    have hmu : (m : Int) ≤ m * u := by
      have := Int.mul_le_mul_of_nonneg_left hu (Int.natCast_nonneg m)
      omega
    have hz := decB_small m (by omega)
    refine ⟨by rw [ByteArray.size_append, ByteArray.size_append]; omega, ?_⟩
    rw [byteAt_app_left _ _ _ (by rw [ByteArray.size_append]; omega)]
    have hsg : sg = ⟨#[]⟩ ∨ sg = ⟨#[45]⟩ := by rcases hn with ⟨h, _⟩ | ⟨h, _⟩; exact .inl h; exact .inr h
    rcases sgdig sg m hsg 0 (by rw [ByteArray.size_append]; omega) with h | h
    · exact key _ (.inl h)
    · exact key _ (.inr (.inl h))
  | txt t T h =>
    cases h with
    | blk hb hl => exact ⟨by rw [ByteArray.size_append, ByteArray.size_append]; exact Nat.lt_of_lt_of_le (show 0 < 1 + 2 by decide) (by show 1 + 2 ≤ 1 + _ + 2; omega), by rw [ByteArray.append_assoc, byteAt_app_left _ _ _ (by decide)]; exact key _ (.inr (.inr (.inl rfl)))⟩
    | sq hP => exact ⟨by rw [ByteArray.size_append, ByteArray.size_append]; show 0 < 1 + _ + 1; omega, by rw [ByteArray.append_assoc, byteAt_app_left _ _ _ (by decide)]; exact key _ (.inr (.inr (.inr (.inl rfl))))⟩
    | bare hB hl =>
      refine ⟨hB.pos, ?_⟩
      rcases hB.bytes 0 hB.pos with h | h
      · exact key _ (.inr (.inr (.inr (.inr (.inr h)))))
      · exact absurd rfl h.1
    | dq hP => exact ⟨by rw [ByteArray.size_append, ByteArray.size_append]; show 0 < 1 + _ + 1; omega, by rw [ByteArray.append_assoc, byteAt_app_left _ _ _ (by decide)]; exact key _ (.inr (.inr (.inr (.inr (.inl rfl)))))⟩
/-- A leaf and its end, at the top. -/
theorem fd_leaf {T : ByteArray} (hK : K.ped = false) (hsp : LeafSp j T) (e : Nat) (he : e < 5) (hblk : (byteAt T (T.size - 1) = 10) → e = 0) (h : Has s p (T ++ endT e)) (hl : sk.length ≤ 900000)
    (hs : ∀ L, (⟨L, cx, ks⟩ : PX).Sets j ⟨L, cx1, ks1⟩) (rest : ∀ pt', pt' ≠ 3 → Fd K s (p + (T.size + (endT e).size)) (p + (T.size + (endT e).size)) sk (plainT 60) cx1 ks1 pt' fin) : Fd K s p p (sk ++ [94]) (plainT 174) cx ks pt fin := by
  have hT := h.left
  have hE := h.right
  have het := end_tm e he
  have hlt := hE.lt 0 het.1
  rw [Nat.add_zero] at hlt
  have hb := hE.at 0 het.1
  rw [Nat.add_zero] at hb
  have htm : tmB (byteAt s (p + T.size)) := by rw [hb]; exact het.2
  rw [← Nat.add_assoc] at rest
  have hend : ∀ pt', pt' ≠ 3 → Fd K s (p + T.size) (p + T.size) sk (plainT 94) cx1 ks1 pt' fin := fun pt' hpt => fd_end_top e he hE (by omega) hpt rest
  cases hsp with
  | int v T hi =>
    obtain ⟨line, E⟩ := rd_int hi hT hlt htm (stk := sk ++ [94]) (sk := sk) (n := 94) rfl (by omega)
    exact Fd.step E (by decide) (fun L x h1 h2 _ => works_intsp hK L x h1 v (by rw [h2]; exact hi) (hs L)) (hend 7 (by decide))
  | txt t T ht =>
    have hw : ∀ (L : LX) (x : It), x.typ = 5 → x.val = t → Works K ⟨L, cx, ks⟩ x ⟨L, cx1, ks1⟩ := fun L x h1 h2 => works_str hK L x h1 (by rw [h2]; exact hs L)
    cases ht with
    | blk hB _ =>
      have hz : ((⟨#[40]⟩ : ByteArray) ++ t ++ ⟨#[41, 10]⟩).size = t.size + 3 := by rw [ByteArray.size_append, ByteArray.size_append]; show 1 + t.size + 2 = _; omega
      have hlast : byteAt ((⟨#[40]⟩ : ByteArray) ++ t ++ ⟨#[41, 10]⟩) (((⟨#[40]⟩ : ByteArray) ++ t ++ ⟨#[41, 10]⟩).size - 1) = 10 := by
        have h2 := byteAt_app_right ((⟨#[40]⟩ : ByteArray) ++ t) ⟨#[41, 10]⟩ 1
        have hz1 : ((⟨#[40]⟩ : ByteArray) ++ t).size = t.size + 1 := by rw [ByteArray.size_append]; show 1 + t.size = _; omega
        rw [hz1] at h2
        rw [hz, show t.size + 3 - 1 = t.size + 1 + 1 from by omega, h2]
        rfl
      obtain rfl := hblk hlast
      obtain ⟨line, E⟩ := rd_blk hB hT (stk := sk ++ [94]) (sk := sk) (n := 94) rfl (by omega)
      have b2 : byteAt s (p + t.size + 2) = 10 := by
        have := hT.at (t.size + 2) (by omega)
        rw [← Nat.add_assoc] at this
        rw [this]
        rw [hz] at hlast
        exact hlast
      have hle := hT.le
      rw [hz] at hle hb hlt rest
      have h10 : byteAt s (p + (t.size + 3)) = 10 := hb
      refine Fd.step E (by decide) (fun L x h1 h2 _ => hw L x h1 h2) (Fd.lead (ld_tve_nl (by omega) b2) (fd_sp (by omega) (by rw [show p + t.size + 2 + 1 = p + (t.size + 3) from by omega, h10]; rfl) ?_))
      exact rest 5 (by decide)
    | sq hP =>
      have hz : ((⟨#[39]⟩ : ByteArray) ++ t ++ ⟨#[39]⟩).size = t.size + 2 := by rw [ByteArray.size_append, ByteArray.size_append]; show 1 + t.size + 1 = _; omega
      obtain ⟨line, E⟩ := rd_sq hP hT (stk := sk ++ [94]) (sk := sk) (n := 94) rfl (by omega)
      rw [hz, ← Nat.add_assoc] at hend
      exact Fd.step E (by decide) (fun L x h1 h2 _ => hw L x h1 h2) (hend 5 (by decide))
    | bare hB _ =>
      obtain ⟨line, E⟩ := rd_bare hB hT hlt htm (stk := sk ++ [94]) (sk := sk) (n := 94) rfl (by omega)
      exact Fd.step E (by decide) (fun L x h1 h2 _ => hw L x h1 h2) (hend 5 (by decide))
    | dq hP =>
      have hz : ((⟨#[34]⟩ : ByteArray) ++ escT t ++ ⟨#[34]⟩).size = (escT t).size + 2 := by rw [ByteArray.size_append, ByteArray.size_append]; show 1 + (escT t).size + 1 = _; omega
      obtain ⟨line, E⟩ := rd_dq hP hT (stk := sk ++ [94]) (sk := sk) (n := 94) rfl (by omega)
      rw [hz, ← Nat.add_assoc] at hend
      exact Fd.step E (by decide) (fun L x h1 h2 _ => hw L x h1 h2) (hend 5 (by decide))
end
end Go.Cf

/-
  The specification's writer: values without others in them, while there are no variables.
-/
namespace Go.Cf
open Go.RowKit Go.Conc Go.Proofs
theorem order_symm (d e : Ieee.Datum) (h : d.order e = some .eq) : e.order d = some .eq := by
  cases d with
  | nan => cases h
  | infinity s =>
    cases e with
    | nan => cases h
    | infinity t => cases s <;> cases t <;> first | rfl | (exact absurd h (by decide))
    | number t n j => cases s <;> simp [Ieee.Datum.order] at h
  | number s m i =>
    cases e with
    | nan => cases h
    | infinity t => cases t <;> simp [Ieee.Datum.order] at h
    | number t n j =>
      simp only [Ieee.Datum.order, Option.some.injEq] at h ⊢
      rw [Int.compare_eq_eq] at h ⊢
      rw [Int.min_comm j i, h]
/-- A float that is nought. -/
def FZ (f : Nat) : Prop := (FloatKind.f64.format.order f 0 == some .eq) = true ∧ (FloatKind.f64.format.order 0 f == some .eq) = true
theorem FZ.of (f : Nat) (h : (FloatKind.f64.format.order 0 f == some .eq) = true) : FZ f := by
  refine ⟨?_, h⟩
  rw [beq_iff_eq] at h ⊢
  exact order_symm _ _ h
/-- A value without others in it, in a struct. -/
def leafV (k n : Int) (f : Nat) (is : Bool) (t : ByteArray) (a1 : Option Addr) (c1 : Nat) (a2 : Option Addr) (c2 : Nat) : Value := .agg #[.int .i64 k, .int .i64 n, .float .f64 f, .bool is, .string t, .slice a1 0 c1, .slice a2 0 c2]
inductive LeafOk (f : Nat) : Int → Int → Bool → ByteArray → JV → Prop
  | int (n : Int) (h0 : -9223372036854775808 ≤ n) (h1 : n ≤ 9223372036854775807) (hf : FZ f) : LeafOk f 1 n false ⟨#[]⟩ (.int n)
  | txt (t : ByteArray) (hf : FZ f) (ht : t.size ≤ 60) : LeafOk f 4 0 false t (.txt t)
section
variable {lab lab1 : Lab} {w w1 : World} {b : Nat} {W W1 W2 : CW} {T T2 : ByteArray} {k n : Int} {f : Nat} {is : Bool} {t : ByteArray} {a1 a2 : Option Addr} {c1 c2 : Nat} {j : JV}
theorem Rw.shape {B ℓ e size m : Nat} {v : Value} {xs : List Value} (h : Rw B ℓ lab w e size v m xs) : ∃ A c, v = .slice A m c := by
  obtain ⟨⟨_, ⟨rfl, rfl⟩ | ⟨g, cap, cur, rfl, _⟩⟩, _⟩ := h
  · exact ⟨none, 0, rfl⟩
  · exact ⟨_, _, rfl⟩
set_option maxRecDepth 100000 in
set_option maxHeartbeats 2000000 in
theorem clean_leaf (h : LeafOk f k n is t j) (w : World) : Calls Tryz.prog 25 #[leafV k n f is t a1 c1 a2 c2] w fun e w' => e = .returned (.bool true) ∧ Below w.heap.size w w' := by
  unfold leafV
  cases h with
  | int n h0 h1 hf =>
    have e1 := hf.1
    have hb : ∀ o, Below w.heap.size w (w.alloc o) := fun o => (Below.refl _ _).alloc (Nat.le_refl _) o
    have HB := Lib.hid hb
    clear hb h0 h1
    go_enter Tryz.func25, Tryz.ntmps25
    go_wp2
    go_ret
    exact ⟨rfl, HB.out _⟩
  | txt t hf ht =>
    have e1 := hf.1
    have hb : ∀ o, Below w.heap.size w (w.alloc o) := fun o => (Below.refl _ _).alloc (Nat.le_refl _) o
    have HB := Lib.hid hb
    clear hb ht
    go_enter Tryz.func25, Tryz.ntmps25
    go_wp2
    go_ret
    exact ⟨rfl, HB.out _⟩
set_option maxRecDepth 100000 in
set_option maxHeartbeats 2000000 in
theorem variable_none (h : WAt lab w b W) (hnv : W.nv = 0) (hl : LeafOk f k n is t j) : Calls Tryz.prog 42 #[.pointer (some ⟨b, 0, none⟩), leafV k n f is t a1 c1 a2 c2] w fun e w' => e = .returned (.bool false) ∧ ∃ W' lab', WAt lab' w' b W' ∧ Wrote W W' ⟨#[]⟩ ∧ Mv (· = 40) w lab w' lab' := by
  have hw0 := Wrote.pick W 3
  have hlt := pick_lt W 3 (by decide)
  have hk : k = 1 ∨ k = 4 := by cases hl <;> simp
  have hmv : ∀ o, Mv (fun _ => False) w lab (w.alloc o) (lab.ext w.heap.size 45) := fun o => Mv.alloc _ _ _ _
  have HMV := Lib.hid hmv
  have HK := Lib.hid h
  clear hl hmv h
  unfold leafV
  rcases hk with rfl | rfl
  · go_enter Tryz.func42, Tryz.ntmps42
    go_wp2_with fail
    refine (pick_c (HK.out.mv (HMV.out _) (fun _ _ h => h)) 3 (by decide) (by decide)).mono ?_
    rintro e w1 ⟨rfl, h1, m1⟩
    obtain ⟨u, W1, hkW⟩ : ∃ u W1, W.pick 3 = (u, W1) := ⟨_, _, rfl⟩
    rw [hkW] at h1 hw0 hlt ⊢
    simp only at h1 hw0 hlt ⊢
    have HF := Lib.hid (And.intro h1 (And.intro hw0 (((HMV.out _).mono (M' := (· = 40)) (fun _ h => h.elim)).trans m1 (fun _ h => h))))
    have hnv1 : W1.nv = 0 := by rw [hw0.nv]; exact hnv
    obtain ⟨A, c, c5⟩ : ∃ A c, w1.cell? ⟨b, 5, none⟩ = some (.slice A 0 c) := by
      obtain ⟨sv, kn, va, us, inn, hx⟩ := h1
      obtain ⟨A, c, rfl⟩ := hx.va.shape
      rw [← hnv1]
      exact ⟨A, c, hx.cl.cell 5⟩
    clear h1 m1 hw0 hkW hnv1
    by_cases hu : u = 1
    · have e1 : ((u : Int) == 1) = true := beq_iff_eq.2 (by omega)
      have e2 : ((u : Int) != 1) = false := by rw [bne, e1]; rfl
      clear hu
      go_wp2_with fail
      go_loopw [25] (fun i wr => i = .int .i64 0 ∧ wr = w1) (fun _ _ => 0)
      case atStart => exact ⟨rfl, rfl⟩
      case round =>
        obtain ⟨rfl, hwr⟩ := hrel
        have hwr' := hwr.symm
        clear hwr
        subst hwr'
        go_wp2
        go_ret
        exact ⟨rfl, _, _, HF.out.1, HF.out.2.1, HF.out.2.2⟩
    · have e1 : ((u : Int) == 1) = false := beq_eq_false_iff_ne.2 (by omega)
      have e2 : ((u : Int) != 1) = true := by rw [bne, e1]; rfl
      clear hu
      go_wp2
      go_ret
      exact ⟨rfl, _, _, HF.out.1, HF.out.2.1, HF.out.2.2⟩
  · go_enter Tryz.func42, Tryz.ntmps42
    go_wp2_with fail
    refine (pick_c (HK.out.mv (HMV.out _) (fun _ _ h => h)) 3 (by decide) (by decide)).mono ?_
    rintro e w1 ⟨rfl, h1, m1⟩
    obtain ⟨u, W1, hkW⟩ : ∃ u W1, W.pick 3 = (u, W1) := ⟨_, _, rfl⟩
    rw [hkW] at h1 hw0 hlt ⊢
    simp only at h1 hw0 hlt ⊢
    have HF := Lib.hid (And.intro h1 (And.intro hw0 (((HMV.out _).mono (M' := (· = 40)) (fun _ h => h.elim)).trans m1 (fun _ h => h))))
    have hnv1 : W1.nv = 0 := by rw [hw0.nv]; exact hnv
    obtain ⟨A, c, c5⟩ : ∃ A c, w1.cell? ⟨b, 5, none⟩ = some (.slice A 0 c) := by
      obtain ⟨sv, kn, va, us, inn, hx⟩ := h1
      obtain ⟨A, c, rfl⟩ := hx.va.shape
      rw [← hnv1]
      exact ⟨A, c, hx.cl.cell 5⟩
    clear h1 m1 hw0 hkW hnv1
    by_cases hu : u = 1
    · have e1 : ((u : Int) == 1) = true := beq_iff_eq.2 (by omega)
      have e2 : ((u : Int) != 1) = false := by rw [bne, e1]; rfl
      clear hu
      go_wp2_with fail
      go_loopw [25] (fun i wr => i = .int .i64 0 ∧ wr = w1) (fun _ _ => 0)
      case atStart => exact ⟨rfl, rfl⟩
      case round =>
        obtain ⟨rfl, hwr⟩ := hrel
        have hwr' := hwr.symm
        clear hwr
        subst hwr'
        go_wp2
        go_ret
        exact ⟨rfl, _, _, HF.out.1, HF.out.2.1, HF.out.2.2⟩
    · have e1 : ((u : Int) == 1) = false := beq_eq_false_iff_ne.2 (by omega)
      have e2 : ((u : Int) != 1) = true := by rw [bne, e1]; rfl
      clear hu
      go_wp2
      go_ret
      exact ⟨rfl, _, _, HF.out.1, HF.out.2.1, HF.out.2.2⟩
end
end Go.Cf

/-
  The law's sizes: zzFits1 and zzFits2 answer; the guards that only read.
-/
namespace Go.Cf
open Go.RowKit Go.Conc Go.Proofs
attribute [local go_sem] run_store_flt
/-- The caller's strings can be read. -/
def KeysIn (w : World) (a : Option Addr) (m : Nat) : Prop := m = 0 ∨ ∃ ad : Addr, a = some ad ∧ ∀ i, i < m → ∃ s : ByteArray, w.cell? (ad.add i) = some (.string s) ∧ s.size ≤ maxLen
section
variable {w w1 : World} {k n : Int} {f : Nat} {is : Bool} {t : ByteArray} {a a1 a2 : Option Addr} {m c m1 m2 c1 c2 : Nat}
set_option maxRecDepth 100000 in
set_option maxHeartbeats 2000000 in
theorem fits2_c (hm : m ≤ maxLen) (hk : KeysIn w a m) : Calls Tryz.prog 23 #[.slice a m c] w fun e w' => (∃ ok, e = .returned (.bool ok)) ∧ w' = w := by
  have hmx : (m : Int) ≤ 9223372036854775807 := by unfold maxLen at hm; omega
  go_enter Tryz.func23, Tryz.ntmps23
  by_cases hb : m ≤ 2147483647
  · have d1 : decide ((2147483647 : Int) < (m : Int)) = false := decide_eq_false (by omega)
    go_wp2
    go_loopw [10] (fun i wr => ∃ j : Nat, i = .int .i64 j ∧ j ≤ m ∧ wr = w) (fun i _ => m - (RowKit.intOf i).toNat)
    case atStart => exact ⟨0, rfl, Nat.zero_le _, rfl⟩
    case round =>
      obtain ⟨j, rfl, hj, rfl⟩ := hrel
      by_cases hjm : j < m
      · have d2 : decide ((j : Int) < (m : Int)) = true := decide_eq_true (by omega)
        rcases hk with h0 | ⟨ad, rfl, hk⟩
        · omega
        · obtain ⟨s, hs, hss⟩ := hk j hjm
          have hj0 : (0 : Int) ≤ (j : Int) := Int.natCast_nonneg _
          have hj1 : (j : Int) < (m : Int) := by omega
          by_cases hsz : s.size ≤ 2147483647
          · have d3 : decide ((2147483647 : Int) < (s.size : Int)) = false := decide_eq_false (by omega)
            go_wp2
            exact ⟨⟨j + 1, by push_cast; rfl, by omega, trivial⟩, by simp [RowKit.intOf]; omega⟩
          · have d3 : decide ((2147483647 : Int) < (s.size : Int)) = true := decide_eq_true (by omega)
            go_wp2
            go_ret
            exact ⟨⟨_, rfl⟩, rfl⟩
      · have d2 : decide ((j : Int) < (m : Int)) = false := decide_eq_false (by omega)
        go_wp2
        go_ret
        exact ⟨⟨_, rfl⟩, rfl⟩
  · have d1 : decide ((2147483647 : Int) < (m : Int)) = true := decide_eq_true (by omega)
    go_wp2
    go_ret
    exact ⟨⟨_, rfl⟩, rfl⟩
theorem KeysIn.below (h : KeysIn w a m) (b : Below w.heap.size w w1) : KeysIn w1 a m := by
  rcases h with h | ⟨ad, rfl, h⟩
  · exact .inl h
  · refine .inr ⟨ad, rfl, fun i hi => ?_⟩
    obtain ⟨s, hs, hz⟩ := h i hi
    refine ⟨s, ?_, hz⟩
    have hl := World.block_lt_of_cell? w _ hs
    unfold World.cell? at hs ⊢
    rw [b.block _ hl]
    exact hs
/-- Any Node, in a struct. -/
def nodV (k n : Int) (f : Nat) (is : Bool) (t : ByteArray) (a1 : Option Addr) (m1 c1 : Nat) (a2 : Option Addr) (m2 c2 : Nat) : Value := .agg #[.int .i64 k, .int .i64 n, .float .f64 f, .bool is, .string t, .slice a1 m1 c1, .slice a2 m2 c2]
set_option maxRecDepth 100000 in
set_option maxHeartbeats 2000000 in
theorem fits1_c (h1 : m1 ≤ maxLen) (hk : KeysIn w a1 m1) (ht : t.size ≤ maxLen) (h2 : m2 ≤ maxLen) : Calls Tryz.prog 11 #[nodV k n f is t a1 m1 c1 a2 m2 c2] w fun e w' => (∃ ok, e = .returned (.bool ok)) ∧ Below w.heap.size w w' := by
  have hb : ∀ o, Below w.heap.size w (w.alloc o) := fun o => (Below.refl _ _).alloc (Nat.le_refl _) o
  have hF := fun o => fits2_c (c := c1) h1 (hk.below (hb o))
  have htx : (t.size : Int) ≤ 9223372036854775807 := by unfold maxLen at ht; omega
  have h2x : (m2 : Int) ≤ 9223372036854775807 := by unfold maxLen at h2; omega
  have HB := Lib.hid hb
  have HF := Lib.hid hF
  clear hb hF hk
  unfold nodV
  go_enter Tryz.func11, Tryz.ntmps11
  by_cases d : t.size ≤ 2147483647
  · have d1 : decide ((2147483647 : Int) < (t.size : Int)) = false := decide_eq_false (by omega)
    go_wp2_with fail
    refine (HF.out _).mono ?_
    rintro e w1 ⟨⟨ok, rfl⟩, rfl⟩
    cases ok with
    | false =>
      go_wp2
      go_ret
      exact ⟨⟨_, rfl⟩, HB.out _⟩
    | true =>
      by_cases d2 : m2 ≤ 2147483647
      · have d3 : decide ((2147483647 : Int) < (m2 : Int)) = false := decide_eq_false (by omega)
        go_wp2
        go_ret
        exact ⟨⟨_, rfl⟩, HB.out _⟩
      · have d3 : decide ((2147483647 : Int) < (m2 : Int)) = true := decide_eq_true (by omega)
        go_wp2
        go_ret
        exact ⟨⟨_, rfl⟩, HB.out _⟩
  · have d1 : decide ((2147483647 : Int) < (t.size : Int)) = true := decide_eq_true (by omega)
    go_wp2
    go_ret
    exact ⟨⟨_, rfl⟩, HB.out _⟩
/-- What pure lets through, of numbers and texts. -/
def PureOk (k n : Int) (f : Nat) (is : Bool) (t : ByteArray) (m1 m2 : Nat) : Prop := m1 = 0 ∧ m2 = 0 ∧ is = false ∧ FZ f ∧ (k = 1 → t = ⟨#[]⟩) ∧ (k = 4 → n = 0)
theorem text_nil {t : ByteArray} (h : t.toList.isEmpty = true) : t = ⟨#[]⟩ := by
  rw [Lib.toList_data, List.isEmpty_iff] at h
  obtain ⟨⟨l⟩⟩ := t
  cases (show l = [] from h)
  rfl
set_option maxRecDepth 100000 in
set_option maxHeartbeats 4000000 in
theorem pure1_c : Calls Tryz.prog 24 #[nodV 1 n f is t a1 m1 c1 a2 m2 c2] w fun e w' => (∃ ok, e = .returned (.bool ok) ∧ (ok = true → PureOk 1 n f is t m1 m2)) ∧ Below w.heap.size w w' := by
  have hb : ∀ o o2, Below w.heap.size w ((w.alloc o).alloc o2) := fun o o2 => ((Below.refl _ _).alloc (Nat.le_refl _) o).alloc (by rw [World.size_alloc]; omega) o2
  have HB := Lib.hid hb
  clear hb
  unfold nodV
  go_enter Tryz.func24, Tryz.ntmps24
  by_cases hp : FloatKind.f64.format.order 0 f = some .eq
  case neg =>
    have e1 : (FloatKind.f64.format.order 0 f != some .eq) = true := by rw [bne_iff_ne]; exact hp
    go_wp2
    go_ret
    exact ⟨⟨_, rfl, fun h => by cases h⟩, HB.out _ _⟩
  have e1 : (FloatKind.f64.format.order 0 f != some .eq) = false := by rw [hp]; rfl
  cases is
  case true =>
    go_wp2
    go_ret
    exact ⟨⟨_, rfl, fun h => by cases h⟩, HB.out _ _⟩
  cases ht : t.toList.isEmpty
  case false =>
    go_wp2
    go_ret
    exact ⟨⟨_, rfl, fun h => by cases h⟩, HB.out _ _⟩
  by_cases hm1 : m1 = 0
  case neg =>
    have e2 : ((m1 : Int) == 0) = false := beq_eq_false_iff_ne.2 (by omega)
    go_wp2
    go_ret
    exact ⟨⟨_, rfl, fun h => by cases h⟩, HB.out _ _⟩
  have e2 : ((m1 : Int) == 0) = true := beq_iff_eq.2 (by omega)
  by_cases hm2 : m2 = 0
  case neg =>
    have e3 : ((m2 : Int) == 0) = false := beq_eq_false_iff_ne.2 (by omega)
    go_wp2
    go_ret
    exact ⟨⟨_, rfl, fun h => by cases h⟩, HB.out _ _⟩
  have e3 : ((m2 : Int) == 0) = true := beq_iff_eq.2 (by omega)
  go_wp2
  go_ret
  exact ⟨⟨_, rfl, fun _ => ⟨hm1, hm2, rfl, FZ.of f (by rw [hp]; rfl), fun _ => text_nil ht, fun h => absurd h (by decide)⟩⟩, HB.out _ _⟩
set_option maxRecDepth 100000 in
set_option maxHeartbeats 4000000 in
theorem pure4_c : Calls Tryz.prog 24 #[nodV 4 n f is t a1 m1 c1 a2 m2 c2] w fun e w' => (∃ ok, e = .returned (.bool ok) ∧ (ok = true → PureOk 4 n f is t m1 m2)) ∧ Below w.heap.size w w' := by
  have hb : ∀ o o2, Below w.heap.size w ((w.alloc o).alloc o2) := fun o o2 => ((Below.refl _ _).alloc (Nat.le_refl _) o).alloc (by rw [World.size_alloc]; omega) o2
  have HB := Lib.hid hb
  clear hb
  unfold nodV
  go_enter Tryz.func24, Tryz.ntmps24
  by_cases hn : n = 0
  case neg =>
    have en : ((0 : Int) != n) = true := by rw [bne_iff_ne]; exact fun e => hn e.symm
    have en2 : ¬ (0 : Int) = n := fun e => hn e.symm
    go_wp2
    go_ret
    exact ⟨⟨_, rfl, fun h => by cases h⟩, HB.out _ _⟩
  subst hn
  by_cases hp : FloatKind.f64.format.order 0 f = some .eq
  case neg =>
    have e1 : (FloatKind.f64.format.order 0 f != some .eq) = true := by rw [bne_iff_ne]; exact hp
    go_wp2
    go_ret
    exact ⟨⟨_, rfl, fun h => by cases h⟩, HB.out _ _⟩
  have e1 : (FloatKind.f64.format.order 0 f != some .eq) = false := by rw [hp]; rfl
  cases is
  case true =>
    go_wp2
    go_ret
    exact ⟨⟨_, rfl, fun h => by cases h⟩, HB.out _ _⟩
  by_cases hm1 : m1 = 0
  case neg =>
    have e2 : ((m1 : Int) == 0) = false := beq_eq_false_iff_ne.2 (by omega)
    go_wp2
    go_ret
    exact ⟨⟨_, rfl, fun h => by cases h⟩, HB.out _ _⟩
  have e2 : ((m1 : Int) == 0) = true := beq_iff_eq.2 (by omega)
  by_cases hm2 : m2 = 0
  case neg =>
    have e3 : ((m2 : Int) == 0) = false := beq_eq_false_iff_ne.2 (by omega)
    go_wp2
    go_ret
    exact ⟨⟨_, rfl, fun h => by cases h⟩, HB.out _ _⟩
  have e3 : ((m2 : Int) == 0) = true := beq_iff_eq.2 (by omega)
  go_wp2
  go_ret
  exact ⟨⟨_, rfl, fun _ => ⟨hm1, hm2, rfl, FZ.of f (by rw [hp]; rfl), fun h => absurd h (by decide), fun _ => rfl⟩⟩, HB.out _ _⟩
end
end Go.Cf

/-
  The specification's writer: a value without others in it.
-/
namespace Go.Cf
open Go.RowKit Go.Conc Go.Proofs
section
variable {lab lab1 : Lab} {w w1 : World} {b : Nat} {W W1 W2 : CW} {T T2 : ByteArray} {k n : Int} {f : Nat} {is : Bool} {t : ByteArray} {a1 a2 : Option Addr} {c1 c2 : Nat} {j : JV}
theorem LeafOk.size (h : LeafOk f k n is t j) : t.size ≤ 60 := by
  cases h with
  | int n h0 h1 hf => decide
  | txt t hf ht => exact ht
set_option maxRecDepth 100000 in
set_option maxHeartbeats 4000000 in
theorem value_leaf (h : WAt lab w b W) (hnv : W.nv = 0) (hl : LeafOk f k n is t j) (deep : Int) (hd : deep ≤ 8) (ht : W.text.size ≤ 800000000) (hln : W.line ≤ 800000000) : Calls Tryz.prog 37 #[.pointer (some ⟨b, 0, none⟩), leafV k n f is t a1 c1 a2 c2, .bool false, .int .i64 deep] w fun e w' => e = .returned (.tuple #[]) ∧ ∃ W' T lab', WAt lab' w' b W' ∧ Wrote W W' T ∧ T.size ≤ 200 ∧ (W'.bad = false → LeafSp j T) ∧ Mv (· = 40) w lab w' lab' := by
  have d8 : decide ((8 : Int) < deep) = false := decide_eq_false (by omega)
  have hmv : ∀ o, Mv (fun _ => False) w lab (w.alloc o) (lab.ext w.heap.size 45) := fun o => Mv.alloc _ _ _ _
  have HMV := Lib.hid hmv
  have HK := Lib.hid h
  have h3 : ∀ o, (w.alloc o).cell? ⟨b, 3, none⟩ = some (.bool W.bad) := fun o => (h.mv (hmv o) (fun _ _ h => h)).c3
  have f3 : ∀ o, (w.alloc o).frozen? ⟨b, 3, none⟩ = false := fun o => (h.mv (hmv o) (fun _ _ h => h)).f3
  clear hmv h hd
  cases hb : W.bad with
  | true =>
    rw [hb] at h3
    have hf := fun o => (HK.out.mv (HMV.out o) (fun _ _ h => h)).flag true
    have HF := Lib.hid hf
    have hwf : Wrote W (W.flag true) ⟨#[]⟩ := Wrote.flag W true (fun h => by cases h)
    have HW := Lib.hid hwf
    clear hf hwf hl
    unfold leafV
    go_enter Tryz.func37, Tryz.ntmps37
    go_wp2
    refine bodyPost_ret (results_none rfl _ _ _) rfl ?_
    exact ⟨rfl, _, _, _, (HF.out _).1, HW.out, by decide, (fun h => by cases h), ((HMV.out _).mono (M' := (· = 40)) (fun _ h => h.elim)).trans (HF.out _).2 (fun _ h => h)⟩
  | false =>
    rw [hb] at h3
    have hcl := fun w => clean_leaf (a1 := a1) (c1 := c1) (a2 := a2) (c2 := c2) hl w
    have HL := Lib.hid hl
    have hts := hl.size
    have hk : k = 1 ∨ k = 4 := by cases hl <;> simp
    clear hl
    unfold leafV at *
    go_enter Tryz.func37, Tryz.ntmps37
    go_wp2_with fail
    refine (hcl _).mono ?_
    rintro e w1 ⟨rfl, hb1⟩
    obtain ⟨bx, hbx⟩ : ∃ bx, bx = Obj.cells #[Value.int IntKind.i64 k, Value.int IntKind.i64 n, Value.float FloatKind.f64 f, Value.bool is, Value.string t, Value.slice a1 0 c1, Value.slice a2 0 c2] 26 := ⟨_, rfl⟩
    obtain ⟨lab1, hlab1⟩ : ∃ l, l = (lab.ext w.heap.size 45).ext (w.alloc bx).heap.size 45 := ⟨_, rfl⟩
    rw [← hbx] at hb1
    have m01 : Mv (fun _ => False) w lab w1 lab1 := by rw [hlab1]; exact (HMV.out bx).trans (Mv.below (M := fun _ => False) hb1 (lab.ext w.heap.size 45) 45) (fun _ h => h)
    have h1 := HK.out.mv m01 (fun _ _ h => h)
    have c3 := h1.c3
    have fr3 := h1.f3
    rw [hb] at c3
    obtain ⟨h1f, m1f⟩ := h1.flag false
    have hbxl : lab1 w.heap.size = 45 := by rw [hlab1, Lab.ext_lt (by rw [World.size_alloc]; omega), Lab.ext_ge (Nat.le_refl _)]
    have hblk : w1.heap[w.heap.size]? = some (.cells #[Value.int IntKind.i64 k, Value.int IntKind.i64 n, Value.float FloatKind.f64 f, Value.bool is, Value.string t, Value.slice a1 0 c1, Value.slice a2 0 c2] 26 (0, 0)) := by
      rw [hb1.block w.heap.size (by rw [World.size_alloc]; omega), hbx]
      exact heap_alloc_new w _
    obtain ⟨w1s, hw1s⟩ : ∃ x, x = w1.setCell ⟨b, 3, none⟩ (.bool false) := ⟨_, rfl⟩
    rw [← hw1s] at h1f m1f
    have hblks : w1s.heap[w.heap.size]? = some (.cells #[Value.int IntKind.i64 k, Value.int IntKind.i64 n, Value.float FloatKind.f64 f, Value.bool is, Value.string t, Value.slice a1 0 c1, Value.slice a2 0 c2] 26 (0, 0)) := by
      rw [m1f.block w.heap.size (lt_of_block hblk) (by rw [hbxl]; decide)]
      exact hblk
    have q0 : w1s.cell? ⟨w.heap.size, 0, none⟩ = some (.int .i64 k) := blk_cell hblks 0
    have q1 : w1s.cell? ⟨w.heap.size, 1, none⟩ = some (.int .i64 n) := blk_cell hblks 1
    have q2 : w1s.cell? ⟨w.heap.size, 2, none⟩ = some (.float .f64 f) := blk_cell hblks 2
    have q3 : w1s.cell? ⟨w.heap.size, 3, none⟩ = some (.bool is) := blk_cell hblks 3
    have q4 : w1s.cell? ⟨w.heap.size, 4, none⟩ = some (.string t) := blk_cell hblks 4
    have q5 : w1s.cell? ⟨w.heap.size, 5, none⟩ = some (.slice a1 0 c1) := blk_cell hblks 5
    have q6 : w1s.cell? ⟨w.heap.size, 6, none⟩ = some (.slice a2 0 c2) := blk_cell hblks 6
    have c3s : w1s.cell? ⟨b, 3, none⟩ = some (.bool false) := h1f.c3
    have HV := Lib.hid (variable_none (a1 := a1) (c1 := c1) (a2 := a2) (c2 := c2) h1f hnv HL.out)
    have HM := Lib.hid ((m01.mono (M' := (· = 40)) (fun _ h => h.elim)).trans m1f (fun _ h => h))
    have HB := Lib.hid hblks
    have hwf := Lib.hid (Wrote.flag W false (fun _ => hb))
    have hsame : ∀ a u, w1.setCell a u = w1.setCell a u := fun _ _ => rfl
    clear hsame h1 h1f m1f hblk hblks m01 hb1 hcl
    unfold leafV at *
    go_upto_region 2 with fail
    rw [← hw1s]
    clear hw1s c3 fr3
    have HBL := Lib.hid hbxl
    clear hbxl hlab1 hbx
    go_wp2_with fail
    refine HV.out.mono ?_
    rintro e w2 ⟨rfl, W2, lab2, h2, hw2, m2⟩
    have hblk2 : w2.heap[w.heap.size]? = some (.cells #[Value.int IntKind.i64 k, Value.int IntKind.i64 n, Value.float FloatKind.f64 f, Value.bool is, Value.string t, Value.slice a1 0 c1, Value.slice a2 0 c2] 26 (0, 0)) := by
      rw [m2.block w.heap.size (lt_of_block HB.out) (by rw [HBL.out]; decide)]
      exact HB.out
    have r0 : w2.cell? ⟨w.heap.size, 0, none⟩ = some (.int .i64 k) := blk_cell hblk2 0
    have r1 : w2.cell? ⟨w.heap.size, 1, none⟩ = some (.int .i64 n) := blk_cell hblk2 1
    have r4 : w2.cell? ⟨w.heap.size, 4, none⟩ = some (.string t) := blk_cell hblk2 4
    have hwa := hwf.out.trans hw2
    rw [empty_app] at hwa
    have hsa := hwa.size
    have hla := hwa.line_le
    rw [show (⟨#[]⟩ : ByteArray).size = 0 from rfl] at hsa hla
    have HH2 := Lib.hid h2
    have HMA := Lib.hid (HM.out.trans m2 (fun _ h => h))
    have HWA := Lib.hid hwa
    clear h2 m2 hw2 hwa hblk2 q0 q1 q2 q3 q4 q5 q6 c3s HV HM hwf HB
    rcases hk with hk1 | hk4
    · subst hk1
      have hb1 : -9223372036854775808 ≤ n ∧ n ≤ 9223372036854775807 := by cases HL.out with | int n h0 h1 hf => exact ⟨h0, h1⟩
      have hI := Lib.hid (integer_c HH2.out n hb1.1 hb1.2 (by omega) (by omega))
      clear hb1
      go_wp2_with fail
      refine hI.out.mono ?_
      rintro e w3 ⟨rfl, W3, T, lab3, h3, hw3, hT, hbd, m3⟩
      have hwb := HWA.out.trans hw3
      rw [empty_app] at hwb
      have hsp : W3.bad = false → LeafSp j T := fun e => by
        have := hbd e
        cases HL.out with
        | int n h0 h1 hf => exact .int n T this
      have HF := Lib.hid (And.intro h3 (And.intro hwb (And.intro hsp (HMA.out.trans m3 (fun _ h => h)))))
      clear h3 hw3 hbd m3 hwb hsp hI
      go_wp2
      go_end0
      exact ⟨rfl, _, _, _, HF.out.1, HF.out.2.1, by omega, HF.out.2.2.1, HF.out.2.2.2⟩
    · subst hk4
      have hI := Lib.hid (words_c HH2.out t false (by omega) (by omega) (by omega))
      go_wp2_with fail
      refine hI.out.mono ?_
      rintro e w3 ⟨rfl, W3, T, lab3, h3, hw3, hT, hbd, m3⟩
      have hwb := HWA.out.trans hw3
      rw [empty_app] at hwb
      have hsp : W3.bad = false → LeafSp j T := fun e => by
        have := hbd e
        cases HL.out with
        | txt t hf ht => exact .txt t T this
      have HF := Lib.hid (And.intro h3 (And.intro hwb (And.intro hsp (HMA.out.trans m3 (fun _ h => h)))))
      clear h3 hw3 hbd m3 hwb hsp hI
      go_wp2
      go_end0
      exact ⟨rfl, _, _, _, HF.out.1, HF.out.2.1, by omega, HF.out.2.2.1, HF.out.2.2.2⟩
end
end Go.Cf
