/-
  Texts joined: Rw Er18 En.
-/
import Derived.Test.YtackodbeohaidaaGreatDoorVz2
import Derived.Test.YtackodbeohaidaaGreatDoorVz8
import Derived.Test.YtackodbeohaidaaGreatDoorVz12
/-
  The lines of FnConfVariable behind a key's value: what they feed the parser.
-/
namespace Go.Cf
open Go.RowKit Go.Conc Go.Proofs
def bV : ByteArray := ⟨#[118]⟩
def bW : ByteArray := ⟨#[119]⟩
def bX : ByteArray := ⟨#[120]⟩
def bY : ByteArray := ⟨#[121]⟩
def bZ : ByteArray := ⟨#[122]⟩
theorem bare1 (c : UInt8) (h : letB c.toNat) : Bare ⟨#[c]⟩ := by
  refine ⟨show 0 < 1 by decide, fun j hj => ?_, fun x hx => ?_⟩
  · have : j = 0 := by have : j < 1 := hj; omega
    subst this
    exact .inl h
  · intro e
    have hl : (Lib.toLowerA (⟨#[c]⟩ : ByteArray).data.toList).length = 1 := rfl
    rw [e] at hl
    simp only [kwWords, List.mem_cons, List.not_mem_nil, or_false] at hx
    rcases hx with rfl | rfl | rfl | rfl | rfl | rfl | rfl <;> simp at hl
/-- w = $v -/
def txW : ByteArray := ⟨#[119, 32, 61, 32, 36, 118, 10]⟩
/-- x { y = $v } -/
def txX : ByteArray := ⟨#[120, 32, 123, 32, 121, 32, 61, 32, 36, 118, 32, 125, 10]⟩
/-- z = [$v, 1 ] -/
def txZ : ByteArray := ⟨#[122, 32, 61, 32, 91, 36, 118, 44, 32, 49, 32, 93, 10]⟩
section
variable {K : PK} {s : ByteArray} {p : Nat} {cx fin : List CJ} {pt : Nat} {j : JV} {m m2 : List (ByteArray × JV)}
theorem bareV : Bare bV := bare1 118 (.inr ⟨by decide, by decide⟩)
theorem bareW : Bare bW := bare1 119 (.inr ⟨by decide, by decide⟩)
theorem bareX : Bare bX := bare1 120 (.inr ⟨by decide, by decide⟩)
theorem bareZ : Bare bZ := bare1 122 (.inr ⟨by decide, by decide⟩)
theorem noPreV : Lib.hasPrefix bV.data.toList [50, 97, 36] = false := rfl
theorem fd_w (hK : K.ped = false) (h : Has s p txW) (hlk : lookM bV m = some j) (hm : m.length ≤ 1000000) (rest : ∀ pt', pt' ≠ 3 → Fd K s (p + 7) (p + 7) [] (plainT 60) [.map (putL bW j m)] [] pt' fin) : Fd K s p p [] (plainT 60) [.map m] [] pt fin := by
  have hle : p + 7 ≤ s.size := h.le
  have e : txW = bW ++ sepT 0 ++ (⟨#[36]⟩ ++ bV ++ ⟨#[10]⟩) := by decide
  rw [e] at h
  have h1 := h.left
  have h2 := h.right
  have hz : (bW ++ sepT 0).size = 4 := by decide
  rw [hz] at h2
  have b36 : byteAt s (p + 4) = 36 := h2.left.left.at 0 (by decide)
  have b10 : byteAt s (p + 4 + 2) = 10 := h2.right.at 0 (by decide)
  have hs1 : (bW.size + (sepT 0).size) = 4 := by decide
  refine fd_key hK (.bare bareW) (by rfl) 0 (by decide) h1 (by rw [hs1]; omega) (by rw [hs1, b36]; exact ⟨rfl, rfl, by decide⟩) (by simp) (by simp) ?_
  rw [hs1]
  obtain ⟨line, E⟩ := rd_var (t := bV) bareV h2.left (show p + 4 + 1 + 1 < s.size by omega) (by show tmB (byteAt s (p + 4 + 2)); rw [b10]; exact .inl rfl) (stk := [94]) (sk := []) (n := 94) rfl (by simp)
  refine Fd.step E (by decide) (fun L x h1 h2 _ => works_var hK L x h1 (by rw [h2]; decide) (by rw [h2]; exact noPreV) (by simp) (by rw [h2]; show (match lookM bV m with | some j => some j | none => none) = _; rw [hlk]) (.map m [] [] bW rfl rfl (by simp) hm (by decide))) ?_
  refine Fd.lead (ld_tve_nl (show p + 4 + 2 < s.size by omega) b10) ?_
  exact rest 15 (by decide)
theorem fd_x (hK : K.ped = false) (h : Has s p txX) (hlk : lookM bV m = some j) (hm : m.length ≤ 1000000) (rest : ∀ pt', pt' ≠ 3 → Fd K s (p + 13) (p + 13) [] (plainT 60) [.map (putL bX (.map [bY] [j]) m)] [] pt' fin) : Fd K s p p [] (plainT 60) [.map m] [] pt fin := by
  have hle : p + 13 ≤ s.size := h.le
  have hb := h.at
  have b2 : byteAt s (p + 2) = 123 := hb 2 (by decide)
  have b3 : byteAt s (p + 3) = 32 := hb 3 (by decide)
  have b4 : byteAt s (p + 4) = 121 := hb 4 (by decide)
  have b5 : byteAt s (p + 5) = 32 := hb 5 (by decide)
  have b6 : byteAt s (p + 6) = 61 := hb 6 (by decide)
  have b7 : byteAt s (p + 7) = 32 := hb 7 (by decide)
  have b8 : byteAt s (p + 8) = 36 := hb 8 (by decide)
  have b10 : byteAt s (p + 10) = 32 := hb 10 (by decide)
  have b11 : byteAt s (p + 11) = 125 := hb 11 (by decide)
  have b12 : byteAt s (p + 12) = 10 := hb 12 (by decide)
  have e : txX = bX ++ sepT 4 ++ (⟨#[123, 32]⟩ ++ bY ++ ⟨#[32, 61, 32]⟩ ++ (⟨#[36]⟩ ++ bV) ++ ⟨#[32, 125, 10]⟩) := by decide
  rw [e] at h
  have h1 := h.left
  have hs1 : (bX.size + (sepT 4).size) = 2 := by decide
  have hvar := h.right.left.right
  have hy := h.right.left.left.left.right
  have hz1 : (bX ++ sepT 4).size = 2 := by decide
  have hz2 : (⟨#[123, 32]⟩ ++ bY ++ ⟨#[32, 61, 32]⟩ : ByteArray).size = 6 := by decide
  rw [hz1, hz2] at hvar
  rw [hz1] at hy
  have hy2 : s.extract (p + 4) (p + 4 + 1) = bY := hy.ext
  refine fd_key hK (.bare bareX) (by rfl) 4 (by decide) h1 (by rw [hs1]; omega) (by rw [hs1, b2]; exact ⟨rfl, rfl, by decide⟩) (by simp) (by simp) ?_
  rw [hs1]
  -- the brace
  refine Fd.step (ld_val_map (by omega) (Nat.le_refl _) b2) (by decide) (fun L x h1 _ _ => works_map L x h1 (by simp) (by simp)) ?_
  refine Fd.lead ((ld_mks_sp (show p + 2 + 1 < s.size by omega) (by rw [b3]; rfl) (by rw [b3]; rfl) (by rw [b3]; decide)).trans (ld_skip 181)) ?_
  -- y
  refine Fd.lead (ld_mks_key (show p + 2 + 1 + 1 < s.size by omega) (by rw [show p + 2 + 1 + 1 = p + 4 from rfl, b4]; rfl) (by rw [show p + 2 + 1 + 1 = p + 4 from rfl, b4]; rfl) (by rw [show p + 2 + 1 + 1 = p + 4 from rfl, b4]; decide) (by rw [show p + 2 + 1 + 1 = p + 4 from rfl, b4]; decide) (by rw [show p + 2 + 1 + 1 = p + 4 from rfl, b4]; decide) (by rw [show p + 2 + 1 + 1 = p + 4 from rfl, b4]; decide) (by rw [show p + 2 + 1 + 1 = p + 4 from rfl, b4]; decide) (by rw [show p + 2 + 1 + 1 = p + 4 from rfl, b4]; decide) (by rw [show p + 2 + 1 + 1 = p + 4 from rfl, b4]; decide)) ?_
  have EK := ld_mk_sp (s := s) (p := p + 5) (st := p + 4) (stk := [94]) (by omega) (by omega) (by rw [b5]; rfl) (by rw [show p + 5 = p + 4 + 1 from rfl, hy2]; rfl) (by rw [b5]; decide)
  rw [show p + 5 = p + 4 + 1 from rfl, hy2] at EK
  refine Fd.step EK (by decide) (fun L x h1 h2 _ => by
    have := works_key (cx := .map [] :: [.map m]) (ks := [] ++ [bX]) hK L x h1 (by simp)
    rwa [h2] at this) ?_
  refine Fd.lead ((ld_mke_sp (show p + 4 + 1 < s.size by omega) (by rw [show p + 4 + 1 = p + 5 from rfl, b5]; rfl)).trans (ld_skip 206)) ?_
  refine Fd.lead ((ld_mke_sep (show p + 4 + 1 + 1 < s.size by omega) (by rw [show p + 4 + 1 + 1 = p + 6 from rfl, b6]; rfl) (by rw [show p + 4 + 1 + 1 = p + 6 from rfl, b6]; rfl)).trans (ld_skip 214)) ?_
  refine Fd.lead ((ld_mv_sp (show p + 4 + 1 + 1 + 1 < s.size by omega) (by rw [show p + 4 + 1 + 1 + 1 = p + 7 from rfl, b7]; rfl)).trans (ld_skip 214)) ?_
  refine Fd.lead (ld_mv_other (show p + 4 + 1 + 1 + 1 + 1 < s.size by omega) (by simp) (by rw [show p + 4 + 1 + 1 + 1 + 1 = p + 8 from rfl, b8]; rfl) (by rw [show p + 4 + 1 + 1 + 1 + 1 = p + 8 from rfl, b8]; decide) (by rw [show p + 4 + 1 + 1 + 1 + 1 = p + 8 from rfl, b8]; decide)) ?_
  obtain ⟨line, E⟩ := rd_var (s := s) (p := p + 8) (t := bV) bareV hvar (show p + 8 + 1 + 1 < s.size by omega) (by show tmB (byteAt s (p + 10)); rw [b10]; exact .inr (.inl rfl)) (stk := [94] ++ [207]) (sk := [94]) (n := 207) rfl (by simp)
  refine Fd.step E (by decide) (fun L x h1 h2 _ => works_var hK L x h1 (by rw [h2]; decide) (by rw [h2]; exact noPreV) (by simp) (by rw [h2]; show (match lookM bV m with | some j => some j | none => none) = _; rw [hlk]) (.map [] [.map m] [bX] bY rfl rfl (by simp) (by simp) (by decide))) ?_
  refine Fd.lead ((ld_mve_ws (show p + 10 < s.size by omega) (by rw [b10]; rfl)).trans (ld_skip 207)) ?_
  refine Fd.lead ((ld_mve_end (show p + 10 + 1 < s.size by omega) b11).trans (ld_skip 191)) ?_
  refine Fd.step (ld_me_go (Nat.le_refl _) [] 94 rfl (by simp)) (by decide) (fun L x h1 _ _ => works_mapend hK L x h1 (by simp) (.map m [] [] bX rfl rfl (by simp) hm (by decide))) ?_
  refine Fd.lead (ld_tve_nl (show p + 10 + 1 + 1 < s.size by omega) b12) ?_
  exact rest 13 (by decide)
theorem one_sp : IntSp 1 ⟨#[49]⟩ := ⟨⟨#[]⟩, 1, ⟨#[]⟩, 1, by rw [show decB 1 = ⟨#[49]⟩ from by unfold decB; rw [decS]; rfl]; decide, .one, .inl ⟨rfl, rfl⟩, by decide⟩
theorem fd_z (hK : K.ped = false) (h : Has s p txZ) (hlk : lookM bV m = some j) (hm : m.length ≤ 1000000) (rest : ∀ pt', pt' ≠ 3 → Fd K s (p + 13) (p + 13) [] (plainT 60) [.map (putL bZ (.arr [j, .int 1]) m)] [] pt' fin) : Fd K s p p [] (plainT 60) [.map m] [] pt fin := by
  have hle : p + 13 ≤ s.size := h.le
  have hb := h.at
  have b4 : byteAt s (p + 4) = 91 := hb 4 (by decide)
  have b5 : byteAt s (p + 5) = 36 := hb 5 (by decide)
  have b7 : byteAt s (p + 7) = 44 := hb 7 (by decide)
  have b8 : byteAt s (p + 8) = 32 := hb 8 (by decide)
  have b9 : byteAt s (p + 9) = 49 := hb 9 (by decide)
  have b10 : byteAt s (p + 10) = 32 := hb 10 (by decide)
  have b11 : byteAt s (p + 11) = 93 := hb 11 (by decide)
  have b12 : byteAt s (p + 12) = 10 := hb 12 (by decide)
  have e : txZ = bZ ++ sepT 0 ++ (⟨#[91]⟩ ++ (⟨#[36]⟩ ++ bV) ++ ⟨#[44, 32]⟩ ++ ⟨#[49]⟩ ++ ⟨#[32, 93, 10]⟩) := by decide
  rw [e] at h
  have h1 := h.left
  have hs1 : (bZ.size + (sepT 0).size) = 4 := by decide
  have hone := h.right.left.right
  have hvar := h.right.left.left.left.right
  have hz1 : (bZ ++ sepT 0).size = 4 := by decide
  have hz2 : (⟨#[91]⟩ ++ (⟨#[36]⟩ ++ bV) ++ ⟨#[44, 32]⟩ : ByteArray).size = 5 := by decide
  rw [hz1] at hvar
  rw [hz1, hz2] at hone
  refine fd_key hK (.bare bareZ) (by rfl) 0 (by decide) h1 (by rw [hs1]; omega) (by rw [hs1, b4]; exact ⟨rfl, rfl, by decide⟩) (by simp) (by simp) ?_
  rw [hs1]
  refine Fd.step (ld_val_arr (show p + 4 < s.size by omega) (Nat.le_refl _) b4) (by decide) (fun L x h1 _ _ => works_list L x h1 (by simp) (by simp)) ?_
  refine Fd.lead (ld_arr_other (show p + 4 + 1 < s.size by omega) (by simp) (by rw [show p + 4 + 1 = p + 5 from rfl, b5]; rfl) (by rw [show p + 4 + 1 = p + 5 from rfl, b5]; decide) (by rw [show p + 4 + 1 = p + 5 from rfl, b5]; decide) (by rw [show p + 4 + 1 = p + 5 from rfl, b5]; decide) (by rw [show p + 4 + 1 = p + 5 from rfl, b5]; decide)) ?_
  obtain ⟨line, E⟩ := rd_var (s := s) (p := p + 5) (t := bV) bareV hvar (show p + 5 + 1 + 1 < s.size by omega) (by show tmB (byteAt s (p + 7)); rw [b7]; exact .inr (.inr (.inr (.inl rfl)))) (stk := [94] ++ [190]) (sk := [94]) (n := 190) rfl (by simp)
  refine Fd.step E (by decide) (fun L x h1 h2 _ => works_var hK L x h1 (by rw [h2]; decide) (by rw [h2]; exact noPreV) (by simp) (by rw [h2]; show (match lookM bV m with | some j => some j | none => none) = _; rw [hlk]) (.arr [] [.map m] rfl (by simp) (by simp))) ?_
  refine Fd.lead ((ld_ae_comma (show p + 7 < s.size by omega) b7).trans (ld_skip 180)) ?_
  refine Fd.lead ((ld_av_sp (show p + 7 + 1 < s.size by omega) (by rw [show p + 7 + 1 = p + 8 from rfl, b8]; rfl)).trans (ld_skip 180)) ?_
  refine Fd.lead (ld_arr_other (show p + 9 < s.size by omega) (by simp) (by rw [b9]; rfl) (by rw [b9]; decide) (by rw [b9]; decide) (by rw [b9]; decide) (by rw [b9]; decide)) ?_
  obtain ⟨line2, E2⟩ := rd_int (s := s) (p := p + 9) one_sp hone (show p + 9 + 1 < s.size by omega) (by show tmB (byteAt s (p + 10)); rw [b10]; exact .inr (.inl rfl)) (stk := [94] ++ [190]) (sk := [94]) (n := 190) rfl (by simp)
  refine Fd.step E2 (by decide) (fun L x h1 h2 _ => works_intsp hK L x h1 1 (by rw [h2]; exact one_sp) (.arr ([] ++ [j]) [.map m] rfl (by simp) (by simp))) ?_
  refine Fd.lead ((ld_arrend_ws (show p + 10 < s.size by omega) (by rw [b10]; rfl)).trans (ld_skip 190)) ?_
  refine Fd.lead (ld_ae_end (show p + 10 + 1 < s.size by omega) b11) ?_
  refine Fd.step (ld_le_go (show p + 10 + 1 ≤ p + 10 + 1 + 1 by omega) [] 94 rfl (by simp)) (by decide) (fun L x h1 _ _ => works_listend hK L x h1 (by simp) (.map m [] [] bZ rfl rfl (by simp) hm (by decide))) ?_
  refine Fd.lead (ld_tve_nl (show p + 10 + 1 + 1 < s.size by omega) b12) ?_
  exact rest 11 (by decide)
end
end Go.Cf

/-
  The specification's writer: a key and its value become known: the state within the region that draws its order.
-/
namespace Go.Cf
open Go.RowKit Go.Conc Go.Proofs
attribute [local go_sem ↓] appX_eq
abbrev KM (x : Nat) : Prop := x = 40 ∨ x = 41 ∨ x = 42
def s18 (i : Nat) : Nat := if i ≤ 21 then 153 + i else 152 + i
/-- What the plain slots hold. -/
def v18 (b nb gl : Nat) (kn va : Value) (kB : ByteArray) (xs : List Value) : Nat → Option Value
  | 4 => some (.pointer (some ⟨b, 4, none⟩))
  | 21 => some (.pointer (some ⟨b, 4, none⟩))
  | 11 => some (.pointer (some ⟨b, 5, none⟩))
  | 24 => some (.pointer (some ⟨b, 5, none⟩))
  | 5 => some kn
  | 12 => some va
  | 6 => some (.string kB)
  | 13 => some (.pointer (some ⟨nb, 6, none⟩))
  | 14 => some (.slice (some ⟨gl, 0, none⟩) 1 1)
  | 15 => some (.int .i64 0)
  | 16 => some (.pointer (some ⟨gl, 0, none⟩))
  | 17 => some (.agg xs.toArray)
  | 7 => none
  | 8 => none
  | 18 => none
  | 19 => none
  | 22 => none
  | 25 => none
  | _ => some (.pointer (some ⟨b, 0, none⟩))
structure R18 (lab0 : Lab) (w0 : World) (b nb gl : Nat) (W : CW) (sv kn va us inn : Value) (kB : ByteArray) (xs : List Value) (t0 : Array Value) (L : Array Bool) (a : Act) (lab : Lab) (w : World) : Prop where
  defers : a.defers = []
  size : a.tmps.size = t0.size
  keep : ∀ j, ¬ (153 ≤ j ∧ j ≤ 176) → a.tmps.getD j undef = t0.getD j undef
  mv : Mv KM w0 lab0 w lab
  got : ∀ i v, i < 26 → L.getD i false = true → v18 b nb gl kn va kB xs i = some v → a.tmps.getD (s18 i) undef = v
  g7 : L.getD 7 false = true → ∃ g, a.tmps.getD 160 undef = .slice (some ⟨g, 0, none⟩) 1 1 ∧ Cl 45 lab w g #[.string kB] 9
  g18 : L.getD 18 false = true → ∃ g, a.tmps.getD 171 undef = .slice (some ⟨g, 0, none⟩) 1 1 ∧ Cl 45 lab w g xs.toArray 26
  cl : Cl 40 lab w b (W.cells sv (if L.getD 22 false = true then a.tmps.getD 161 undef else kn) (if L.getD 25 false = true then a.tmps.getD 172 undef else va) us inn) 53
  r1 : if L.getD 8 false = true then Rw 0 41 lab w 9 1 (a.tmps.getD 161 undef) (W.known.length + 1) (W.known.map Value.string ++ [.string kB]) else Rw 0 41 lab w 9 1 kn W.known.length (W.known.map Value.string)
  r2 : if L.getD 19 false = true then Rw 0 42 lab w 26 7 (a.tmps.getD 172 undef) (W.nv + 1) (W.vals ++ xs) else Rw 0 42 lab w 26 7 va W.nv W.vals
  ord : (L.getD 22 false = true → L.getD 8 false = true) ∧ (L.getD 8 false = true → L.getD 5 false = true) ∧ (L.getD 25 false = true → L.getD 19 false = true) ∧ (L.getD 19 false = true → L.getD 12 false = true)
theorem getD_set (L : Array Bool) (i j : Nat) (hi : i < L.size) : (L.setIfInBounds i true).getD j false = if j = i then true else L.getD j false := by
  rw [Array.getD_eq_getD_getElem?, Array.getD_eq_getD_getElem?]
  by_cases h : j = i
  · subst h
    rw [if_pos rfl, Array.getElem?_setIfInBounds_self_of_lt hi]
    rfl
  · rw [if_neg h, Array.getElem?_setIfInBounds_ne (fun e => h e.symm)]
theorem wpOp_run {P : Program} {Q : Exit → Act → World → Prop} {l : List Oper} {i : Nat} {o : Oper} {a : Act} {w w2 : World} {R : Act → World → Prop} {v : Value} (ho : l[i]? = some o) (hg : o.guard = none) (hrun : (execOp a.eval o).run P w = .ok (.value v) w2) (k : R (a.put o.dst v) w2) : wpOp P l.toArray Q i R a w := by
  have hw : Region.wanted o (yielded l.toArray a.tmps) = true := by simp [Region.wanted, hg]
  unfold wpOp
  simp only [List.getElem?_toArray, ho, hw, if_true]
  left
  unfold Oper.wp
  rw [hrun]
  exact k
section
variable {lab0 lab lab2 : Lab} {w0 w w2 : World} {b nb gl : Nat} {W : CW} {sv kn va us inn : Value} {kB : ByteArray} {xs : List Value} {t0 : Array Value} {L : Array Bool} {a : Act}
theorem s18_inj {i j : Nat} (h : s18 i = s18 j) (hi : i ≠ 22) (hj : j ≠ 22) : i = j := by
  unfold s18 at h
  split at h <;> split at h <;> omega
/-- A plain operation. -/
theorem R18.plain (h : R18 lab0 w0 b nb gl W sv kn va us inn kB xs t0 L a lab w) (hL : L.size = 26) (ht : 200 ≤ t0.size) (i : Nat) (hi : i < 26) (v : Value) (hv : v18 b nb gl kn va kB xs i = some v)
    (h5 : i = 5 → L.getD 8 false = false) (h12 : i = 12 → L.getD 19 false = false) :
    R18 lab0 w0 b nb gl W sv kn va us inn kB xs t0 (L.setIfInBounds i true) (a.put (some (s18 i)) v) lab w := by
  have hs : s18 i < a.tmps.size := by rw [h.size]; unfold s18; split <;> omega
  have hn : i ≠ 7 ∧ i ≠ 8 ∧ i ≠ 18 ∧ i ≠ 19 ∧ i ≠ 22 ∧ i ≠ 25 := by
    refine ⟨?_, ?_, ?_, ?_, ?_, ?_⟩ <;> (rintro rfl; cases hv)
  have hg : ∀ j, (L.setIfInBounds i true).getD j false = if j = i then true else L.getD j false := fun j => getD_set L i j (by omega)
  have hp : ∀ k, (a.put (some (s18 i)) v).tmps.getD k undef = if k = s18 i then v else a.tmps.getD k undef := fun k => put_getD hs
  have hr : ∀ k, 153 ≤ k → k ≤ 174 → k ≠ 153 + i → (a.put (some (s18 i)) v).tmps.getD k undef = a.tmps.getD k undef := fun k h1 h2 h3 => by
    rw [hp, if_neg]
    intro e
    unfold s18 at e
    split at e <;> omega
  have e7 : (L.setIfInBounds i true).getD 7 false = L.getD 7 false := by rw [hg, if_neg (by omega)]
  have e8 : (L.setIfInBounds i true).getD 8 false = L.getD 8 false := by rw [hg, if_neg (by omega)]
  have e18 : (L.setIfInBounds i true).getD 18 false = L.getD 18 false := by rw [hg, if_neg (by omega)]
  have e19 : (L.setIfInBounds i true).getD 19 false = L.getD 19 false := by rw [hg, if_neg (by omega)]
  have e22 : (L.setIfInBounds i true).getD 22 false = L.getD 22 false := by rw [hg, if_neg (by omega)]
  have e25 : (L.setIfInBounds i true).getD 25 false = L.getD 25 false := by rw [hg, if_neg (by omega)]
  refine ⟨h.defers, by simpa [Act.put] using h.size, fun j hj => ?_, h.mv, fun j u hj hlj hu => ?_, ?_, ?_, ?_, ?_, ?_, ?_⟩
  · rw [hp, if_neg]
    · exact h.keep j hj
    · intro e
      unfold s18 at e
      split at e <;> omega
  · rw [hp]
    by_cases hji : j = i
    · subst hji
      rw [if_pos rfl]
      exact Option.some.inj (hv.symm.trans hu)
    · have hj22 : j ≠ 22 := by rintro rfl; cases hu
      rw [if_neg (fun e => hji (s18_inj e hj22 hn.2.2.2.2.1))]
      rw [hg, if_neg hji] at hlj
      exact h.got j u hj hlj hu
  · rw [e7, hr 160 (by omega) (by omega) (by omega)]; exact h.g7
  · rw [e18, hr 171 (by omega) (by omega) (by omega)]; exact h.g18
  · rw [e22, e25, hr 161 (by omega) (by omega) (by omega), hr 172 (by omega) (by omega) (by omega)]; exact h.cl
  · rw [e8, hr 161 (by omega) (by omega) (by omega)]; exact h.r1
  · rw [e19, hr 172 (by omega) (by omega) (by omega)]; exact h.r2
  · rw [e22, e8, e25, e19, hg, hg]
    obtain ⟨o1, o2, o3, o4⟩ := h.ord
    refine ⟨o1, fun h => ?_, o3, fun h => ?_⟩
    · by_cases e : 5 = i
      · rw [if_pos e]
      · rw [if_neg e]; exact o2 h
    · by_cases e : 12 = i
      · rw [if_pos e]
      · rw [if_neg e]; exact o4 h
/-- The world grew; nothing of the state turned. -/
theorem R18.grow (h : R18 lab0 w0 b nb gl W sv kn va us inn kB xs t0 L a lab w) (m : Mv (fun _ => False) w lab w2 lab2) : R18 lab0 w0 b nb gl W sv kn va us inn kB xs t0 L a lab2 w2 := by
  refine ⟨h.defers, h.size, h.keep, h.mv.trans m (fun _ h => h.elim), h.got, fun e => ?_, fun e => ?_, h.cl.mv m (fun h => h), ?_, ?_, h.ord⟩
  · obtain ⟨g, h1, h2⟩ := h.g7 e
    exact ⟨g, h1, h2.mv m (fun h => h)⟩
  · obtain ⟨g, h1, h2⟩ := h.g18 e
    exact ⟨g, h1, h2.mv m (fun h => h)⟩
  · have := h.r1
    split
    · next hc => rw [if_pos hc] at this; exact this.mv m (fun h => h)
    · next hc => rw [if_neg hc] at this; exact this.mv m (fun h => h)
  · have := h.r2
    split
    · next hc => rw [if_pos hc] at this; exact this.mv m (fun h => h)
    · next hc => rw [if_neg hc] at this; exact this.mv m (fun h => h)
/-- A slot of its own is set: of operation i, none of the plain ones. -/
theorem R18.slot (h : R18 lab0 w0 b nb gl W sv kn va us inn kB xs t0 L a lab w) (hL : L.size = 26) (ht : 200 ≤ t0.size) (i : Nat) (hi : i = 7 ∨ i = 18 ∨ i = 8 ∨ i = 19) (v : Value) (hli : L.getD i false = false)
    (h7 : i = 7 → ∃ g, v = .slice (some ⟨g, 0, none⟩) 1 1 ∧ Cl 45 lab w g #[.string kB] 9) (h18 : i = 18 → ∃ g, v = .slice (some ⟨g, 0, none⟩) 1 1 ∧ Cl 45 lab w g xs.toArray 26)
    (h8 : i = 8 → L.getD 5 false = true ∧ L.getD 22 false = false ∧ Rw 0 41 lab w 9 1 v (W.known.length + 1) (W.known.map Value.string ++ [.string kB]))
    (h19 : i = 19 → L.getD 12 false = true ∧ L.getD 25 false = false ∧ Rw 0 42 lab w 26 7 v (W.nv + 1) (W.vals ++ xs)) :
    R18 lab0 w0 b nb gl W sv kn va us inn kB xs t0 (L.setIfInBounds i true) (a.put (some (s18 i)) v) lab w := by
  have hs : s18 i < a.tmps.size := by rw [h.size]; unfold s18; split <;> omega
  have hg : ∀ j, (L.setIfInBounds i true).getD j false = if j = i then true else L.getD j false := fun j => getD_set L i j (by omega)
  have hp : ∀ k, (a.put (some (s18 i)) v).tmps.getD k undef = if k = s18 i then v else a.tmps.getD k undef := fun k => put_getD hs
  have hsi : s18 i = 153 + i := by unfold s18; rw [if_pos (by omega)]
  rw [hsi] at hp hs ⊢
  have hne : ∀ j, j ≠ i → (L.setIfInBounds i true).getD j false = L.getD j false := fun j hj => by rw [hg, if_neg hj]
  have hpn : ∀ k, k ≠ 153 + i → (a.put (some (153 + i)) v).tmps.getD k undef = a.tmps.getD k undef := fun k hk => by rw [hp, if_neg hk]
  refine ⟨h.defers, by simpa [Act.put] using h.size, fun j hj => ?_, h.mv, fun j u hj hlj hu => ?_, ?_, ?_, ?_, ?_, ?_, ?_⟩
  · rw [hpn j (by omega)]; exact h.keep j hj
  · have hji : j ≠ i := by
      rintro rfl
      rcases hi with rfl | rfl | rfl | rfl <;> cases hu
    rw [hne j hji] at hlj
    rw [hpn]
    · exact h.got j u hj hlj hu
    · rw [← hsi]
      intro e
      have hj22 : j ≠ 22 := by rintro rfl; cases hu
      exact hji (s18_inj e hj22 (by omega))
  · by_cases e : i = 7
    · subst e
      obtain ⟨g, e1, e2⟩ := h7 rfl
      exact fun _ => ⟨g, by rw [hp, if_pos rfl]; exact e1, e2⟩
    · rw [hne 7 (by omega), hpn 160 (by omega)]; exact h.g7
  · by_cases e : i = 18
    · subst e
      obtain ⟨g, e1, e2⟩ := h18 rfl
      exact fun _ => ⟨g, by rw [hp, if_pos rfl]; exact e1, e2⟩
    · rw [hne 18 (by omega), hpn 171 (by omega)]; exact h.g18
  · have hcl := h.cl
    rw [hne 22 (by omega), hne 25 (by omega)]
    by_cases e : i = 8
    · subst e
      rw [if_neg (by rw [(h8 rfl).2.1]; decide)] at hcl ⊢
      rw [hpn 172 (by omega)]
      exact hcl
    · rw [hpn 161 (by omega)]
      by_cases e2 : i = 19
      · subst e2
        rw [if_neg (show ¬ L.getD 25 false = true by rw [(h19 rfl).2.1]; decide)] at hcl ⊢
        exact hcl
      · rw [hpn 172 (by omega)]
        exact hcl
  · by_cases e : i = 8
    · subst e
      rw [hg, if_pos rfl, if_pos rfl, hp, if_pos rfl]
      exact (h8 rfl).2.2
    · rw [hne 8 (by omega), hpn 161 (by omega)]; exact h.r1
  · by_cases e : i = 19
    · subst e
      rw [hg, if_pos rfl, if_pos rfl, hp, if_pos rfl]
      exact (h19 rfl).2.2
    · rw [hne 19 (by omega), hpn 172 (by omega)]; exact h.r2
  · obtain ⟨o1, o2, o3, o4⟩ := h.ord
    rw [hne 22 (by omega), hne 25 (by omega), hne 5 (by omega), hne 12 (by omega), hg 8, hg 19]
    refine ⟨fun h => ?_, fun h => ?_, fun h => ?_, fun h => ?_⟩
    · split
      · rfl
      · exact o1 h
    · by_cases e : 8 = i
      · exact (h8 e.symm).1
      · rw [if_neg e] at h; exact o2 h
    · split
      · rfl
      · exact o3 h
    · by_cases e : 19 = i
      · exact (h19 e.symm).1
      · rw [if_neg e] at h; exact o4 h
/-- A row was appended to. -/
theorem R18.app1 (h : R18 lab0 w0 b nb gl W sv kn va us inn kB xs t0 L a lab w) (hL : L.size = 26) (ht : 200 ≤ t0.size) (m : Mv (· = 41) w lab w2 lab2) (hd : L.getD 5 false = true) (hs : L.getD 22 false = false) (v : Value)
    (hrw : Rw 0 41 lab2 w2 9 1 v (W.known.length + 1) (W.known.map Value.string ++ [.string kB])) : R18 lab0 w0 b nb gl W sv kn va us inn kB xs t0 (L.setIfInBounds 8 true) (a.put (some 161) v) lab2 w2 := by
  have hsz : 161 < a.tmps.size := by rw [h.size]; omega
  have hg : ∀ j, (L.setIfInBounds 8 true).getD j false = if j = 8 then true else L.getD j false := fun j => getD_set L 8 j (by omega)
  have hp : ∀ k, (a.put (some 161) v).tmps.getD k undef = if k = 161 then v else a.tmps.getD k undef := fun k => put_getD hsz
  have hne : ∀ j, j ≠ 8 → (L.setIfInBounds 8 true).getD j false = L.getD j false := fun j hj => by rw [hg, if_neg hj]
  have hpn : ∀ k, k ≠ 161 → (a.put (some 161) v).tmps.getD k undef = a.tmps.getD k undef := fun k hk => by rw [hp, if_neg hk]
  refine ⟨h.defers, by simpa [Act.put] using h.size, fun j hj => ?_, h.mv.trans m (fun x hx => by omega), fun j u hj hlj hu => ?_, ?_, ?_, ?_, ?_, ?_, ?_⟩
  · rw [hpn j (by omega)]; exact h.keep j hj
  · have hji : j ≠ 8 := by rintro rfl; cases hu
    rw [hne j hji] at hlj
    rw [hpn]
    · exact h.got j u hj hlj hu
    · intro e
      have hj22 : j ≠ 22 := by rintro rfl; cases hu
      exact hji (s18_inj (j := 8) e hj22 (by omega))
  · rw [hne 7 (by omega), hpn 160 (by omega)]
    intro e
    obtain ⟨g, h1, h2⟩ := h.g7 e
    exact ⟨g, h1, h2.mv m (by decide)⟩
  · rw [hne 18 (by omega), hpn 171 (by omega)]
    intro e
    obtain ⟨g, h1, h2⟩ := h.g18 e
    exact ⟨g, h1, h2.mv m (by decide)⟩
  · have hcl := h.cl.mv m (by decide)
    rw [hne 22 (by omega), hne 25 (by omega)]
    rw [if_neg (show ¬ L.getD 22 false = true by rw [hs]; decide)] at hcl ⊢
    rw [hpn 172 (by omega)]
    exact hcl
  · rw [hg, if_pos rfl, if_pos rfl, hp, if_pos rfl]
    exact hrw
  · rw [hne 19 (by omega), hpn 172 (by omega)]
    have := h.r2
    split
    · next hc => rw [if_pos hc] at this; exact this.mv m (by decide)
    · next hc => rw [if_neg hc] at this; exact this.mv m (by decide)
  · obtain ⟨o1, o2, o3, o4⟩ := h.ord
    rw [hne 22 (by omega), hne 25 (by omega), hne 5 (by omega), hne 12 (by omega), hg 8, hg 19]
    refine ⟨fun h => ?_, fun h => ?_, fun h => ?_, fun h => ?_⟩
    · rfl
    · exact hd
    · exact o3 h
    · exact o4 h
/-- A row was appended to. -/
theorem R18.app2 (h : R18 lab0 w0 b nb gl W sv kn va us inn kB xs t0 L a lab w) (hL : L.size = 26) (ht : 200 ≤ t0.size) (m : Mv (· = 42) w lab w2 lab2) (hd : L.getD 12 false = true) (hs : L.getD 25 false = false) (v : Value)
    (hrw : Rw 0 42 lab2 w2 26 7 v (W.nv + 1) (W.vals ++ xs)) : R18 lab0 w0 b nb gl W sv kn va us inn kB xs t0 (L.setIfInBounds 19 true) (a.put (some 172) v) lab2 w2 := by
  have hsz : 172 < a.tmps.size := by rw [h.size]; omega
  have hg : ∀ j, (L.setIfInBounds 19 true).getD j false = if j = 19 then true else L.getD j false := fun j => getD_set L 19 j (by omega)
  have hp : ∀ k, (a.put (some 172) v).tmps.getD k undef = if k = 172 then v else a.tmps.getD k undef := fun k => put_getD hsz
  have hne : ∀ j, j ≠ 19 → (L.setIfInBounds 19 true).getD j false = L.getD j false := fun j hj => by rw [hg, if_neg hj]
  have hpn : ∀ k, k ≠ 172 → (a.put (some 172) v).tmps.getD k undef = a.tmps.getD k undef := fun k hk => by rw [hp, if_neg hk]
  refine ⟨h.defers, by simpa [Act.put] using h.size, fun j hj => ?_, h.mv.trans m (fun x hx => by omega), fun j u hj hlj hu => ?_, ?_, ?_, ?_, ?_, ?_, ?_⟩
  · rw [hpn j (by omega)]; exact h.keep j hj
  · have hji : j ≠ 19 := by rintro rfl; cases hu
    rw [hne j hji] at hlj
    rw [hpn]
    · exact h.got j u hj hlj hu
    · intro e
      have hj22 : j ≠ 22 := by rintro rfl; cases hu
      exact hji (s18_inj (j := 19) e hj22 (by omega))
  · rw [hne 7 (by omega), hpn 160 (by omega)]
    intro e
    obtain ⟨g, h1, h2⟩ := h.g7 e
    exact ⟨g, h1, h2.mv m (by decide)⟩
  · rw [hne 18 (by omega), hpn 171 (by omega)]
    intro e
    obtain ⟨g, h1, h2⟩ := h.g18 e
    exact ⟨g, h1, h2.mv m (by decide)⟩
  · have hcl := h.cl.mv m (by decide)
    rw [hne 22 (by omega), hne 25 (by omega)]
    rw [if_neg (show ¬ L.getD 25 false = true by rw [hs]; decide)] at hcl ⊢
    rw [hpn 161 (by omega)]
    exact hcl
  · rw [hne 8 (by omega), hpn 161 (by omega)]
    have := h.r1
    split
    · next hc => rw [if_pos hc] at this; exact this.mv m (by decide)
    · next hc => rw [if_neg hc] at this; exact this.mv m (by decide)
  · rw [hg, if_pos rfl, if_pos rfl, hp, if_pos rfl]
    exact hrw
  · obtain ⟨o1, o2, o3, o4⟩ := h.ord
    rw [hne 22 (by omega), hne 25 (by omega), hne 5 (by omega), hne 12 (by omega), hg 8, hg 19]
    refine ⟨fun h => ?_, fun h => ?_, fun h => ?_, fun h => ?_⟩
    · exact o1 h
    · exact o2 h
    · rfl
    · exact hd
/-- What is known is stored. -/
theorem R18.store4 (h : R18 lab0 w0 b nb gl W sv kn va us inn kB xs t0 L a lab w) (hL : L.size = 26) (h8 : L.getD 8 false = true) (v : Value) :
    R18 lab0 w0 b nb gl W sv kn va us inn kB xs t0 (L.setIfInBounds 22 true) (a.put none v) lab (w.setCell ⟨b, 4, none⟩ (a.tmps.getD 161 undef)) := by
  have hg : ∀ j, (L.setIfInBounds 22 true).getD j false = if j = 22 then true else L.getD j false := fun j => getD_set L 22 j (by omega)
  have hne : ∀ j, j ≠ 22 → (L.setIfInBounds 22 true).getD j false = L.getD j false := fun j hj => by rw [hg, if_neg hj]
  have m : Mv (· = 40) w lab (w.setCell ⟨b, 4, none⟩ (a.tmps.getD 161 undef)) lab := Mv.setCell _ _ _ _ h.cl.2
  refine ⟨h.defers, h.size, h.keep, h.mv.trans m (fun _ h => .inl h), fun j u hj hlj hu => ?_, ?_, ?_, ?_, ?_, ?_, ?_⟩
  · have : j ≠ 22 := by rintro rfl; cases hu
    rw [hne j this] at hlj
    exact h.got j u hj hlj hu
  · rw [hne 7 (by omega)]
    intro e
    obtain ⟨g, h1, h2⟩ := h.g7 e
    exact ⟨g, h1, h2.mv m (by decide)⟩
  · rw [hne 18 (by omega)]
    intro e
    obtain ⟨g, h1, h2⟩ := h.g18 e
    exact ⟨g, h1, h2.mv m (by decide)⟩
  · rw [hne 25 (by omega), hg, if_pos rfl, if_pos rfl]
    exact h.cl.set 4 _
  · rw [hne 8 (by omega)]
    have := h.r1
    rw [if_pos h8] at this ⊢
    exact this.mv m (by decide)
  · rw [hne 19 (by omega)]
    have := h.r2
    split
    · next hc => rw [if_pos hc] at this; exact this.mv m (by decide)
    · next hc => rw [if_neg hc] at this; exact this.mv m (by decide)
  · rw [hne 8 (by omega), hne 25 (by omega), hne 19 (by omega), hne 5 (by omega), hne 12 (by omega)]
    exact ⟨fun _ => h8, h.ord.2⟩
theorem R18.store5 (h : R18 lab0 w0 b nb gl W sv kn va us inn kB xs t0 L a lab w) (hL : L.size = 26) (h19 : L.getD 19 false = true) (v : Value) :
    R18 lab0 w0 b nb gl W sv kn va us inn kB xs t0 (L.setIfInBounds 25 true) (a.put none v) lab (w.setCell ⟨b, 5, none⟩ (a.tmps.getD 172 undef)) := by
  have hg : ∀ j, (L.setIfInBounds 25 true).getD j false = if j = 25 then true else L.getD j false := fun j => getD_set L 25 j (by omega)
  have hne : ∀ j, j ≠ 25 → (L.setIfInBounds 25 true).getD j false = L.getD j false := fun j hj => by rw [hg, if_neg hj]
  have m : Mv (· = 40) w lab (w.setCell ⟨b, 5, none⟩ (a.tmps.getD 172 undef)) lab := Mv.setCell _ _ _ _ h.cl.2
  refine ⟨h.defers, h.size, h.keep, h.mv.trans m (fun _ h => .inl h), fun j u hj hlj hu => ?_, ?_, ?_, ?_, ?_, ?_, ?_⟩
  · have : j ≠ 25 := by rintro rfl; cases hu
    rw [hne j this] at hlj
    exact h.got j u hj hlj hu
  · rw [hne 7 (by omega)]
    intro e
    obtain ⟨g, h1, h2⟩ := h.g7 e
    exact ⟨g, h1, h2.mv m (by decide)⟩
  · rw [hne 18 (by omega)]
    intro e
    obtain ⟨g, h1, h2⟩ := h.g18 e
    exact ⟨g, h1, h2.mv m (by decide)⟩
  · rw [hne 22 (by omega), hg, if_pos rfl, if_pos rfl]
    exact h.cl.set 5 _
  · rw [hne 8 (by omega)]
    have := h.r1
    split
    · next hc => rw [if_pos hc] at this; exact this.mv m (by decide)
    · next hc => rw [if_neg hc] at this; exact this.mv m (by decide)
  · rw [hne 19 (by omega)]
    have := h.r2
    rw [if_pos h19] at this ⊢
    exact this.mv m (by decide)
  · rw [hne 22 (by omega), hne 8 (by omega), hne 19 (by omega), hne 5 (by omega), hne 12 (by omega)]
    exact ⟨h.ord.1, h.ord.2.1, fun _ => h19, h.ord.2.2.2⟩
theorem know_region {P : Program} {Q : Exit → Act → World → Prop} {id : Nat} {l : List Oper} (hx : WAtX lab w b W sv kn va us inn) (kB : ByteArray) (xs : List Value) (nb gl : Nat) (hm : P.follows .mixedOrders = true)
    (hdep : (List.range l.length).all (fun i => ((l[i]?).map fun o => o.after.all fun e => !Region.binds .any e || decide (e.on < i)).getD true) = true)
    (hl : l.length = 26) (hd : a.defers = []) (ht : 200 ≤ a.tmps.size)
    (hstep : ∀ L a' lab' w' i o, L.size = 26 → l[i]? = some o → L.getD i false = false → (∀ e ∈ o.after, Region.binds .any e = true → L.getD e.on false = true) → R18 lab w b nb gl W sv kn va us inn kB xs a.tmps L a' lab' w' →
      wpOp P l.toArray Q i (fun a2 w2 => ∃ lab2, R18 lab w b nb gl W sv kn va us inn kB xs a.tmps (L.setIfInBounds i true) a2 lab2 w2) a' w')
    (hend : ∀ (u : List Value) lab' w', u.length = 24 → WAt lab' w' b { W with known := W.known ++ [kB], nv := W.nv + 1, vals := W.vals ++ xs } → Mv KM w lab w' lab' → Q .normal ⟨(a.tmps.toList.take 153 ++ (u ++ a.tmps.toList.drop 177)).toArray, []⟩ w') :
    (Code.region id l.toArray true).wp P Q a w := by
  have hrep : ∀ i, (Array.replicate l.length false).getD i false = false := fun i => by
    rw [Array.getD_eq_getD_getElem?, Array.getElem?_replicate]
    split <;> rfl
  refine wp_region_inv (fun L a' w' => L.size = 26 ∧ ∃ lab', R18 lab w b nb gl W sv kn va us inn kB xs a.tmps L a' lab' w') hm hdep ?_ ?_ ?_
  · refine ⟨by rw [Array.size_replicate, hl], lab, hd, rfl, fun _ _ => rfl, ⟨rfl, rfl, rfl, Nat.le_refl _, fun _ _ _ => rfl, fun _ _ _ => rfl⟩, fun i v _ h => ?_, fun h => ?_, fun h => ?_, ?_, ?_, ?_, ?_⟩
    · rw [hrep] at h; cases h
    · rw [hrep] at h; cases h
    · rw [hrep] at h; cases h
    · rw [if_neg (by rw [hrep]; decide), if_neg (by rw [hrep]; decide)]; exact hx.cl
    · rw [if_neg (by rw [hrep]; decide)]; exact hx.kn
    · rw [if_neg (by rw [hrep]; decide)]; exact hx.va
    · refine ⟨fun h => ?_, fun h => ?_, fun h => ?_, fun h => ?_⟩ <;> (rw [hrep] at h; cases h)
  · rintro L a' w' i o hL ho hf hall ⟨_, lab', hr⟩
    rw [hl] at hL
    have hf2 : L.getD i false = false := by
      rw [Array.getD_eq_getD_getElem?] at hf ⊢
      cases hc : L[i]? with
      | none => rfl
      | some x => rw [hc] at hf; exact hf
    have := hstep L a' lab' w' i o hL ho hf2 hall hr
    exact wpOp_mono (fun a2 w2 h => ⟨by simpa using hL, h⟩) this
  · rintro L a' w' hL hall ⟨_, lab', hr⟩
    rw [hl] at hall
    obtain ⟨u, hu, htt⟩ := frame_range a'.tmps a.tmps 153 24 hr.size (by omega) (fun j hj => hr.keep j (by omega))
    have hW : WAt lab' w' b { W with known := W.known ++ [kB], nv := W.nv + 1, vals := W.vals ++ xs } := by
      have hcl := hr.cl
      have h1 := hr.r1
      have h2 := hr.r2
      rw [if_pos (hall 22 (by omega)), if_pos (hall 25 (by omega))] at hcl
      rw [if_pos (hall 8 (by omega))] at h1
      rw [if_pos (hall 19 (by omega))] at h2
      refine ⟨sv, _, _, us, inn, hcl, hx.sty.mv hr.mv (by decide), ?_, h2, hx.us.mv hr.mv (by decide), hx.inn.mv hr.mv (by decide)⟩
      show Rw 0 41 lab' w' 9 1 _ (W.known ++ [kB]).length ((W.known ++ [kB]).map Value.string)
      rw [List.length_append, List.map_append]
      exact h1
    have := hend u lab' w' hu hW hr.mv
    have hdf := hr.defers
    obtain ⟨t, d⟩ := a'
    simp only at hdf htt this
    subst hdf
    rw [htt]
    exact this
end
end Go.Cf

/-
  The specification's writer: the entries of a map of one key.
-/
namespace Go.Cf
open Go.RowKit Go.Conc Go.Proofs
/-- The map of one key, in a struct. -/
def oneV (gk gl : Nat) : Value := .agg #[.int .i64 6, .int .i64 0, .float .f64 0, .bool false, .string { data := #[] }, .slice (some ⟨gk, 0, none⟩) 1 1, .slice (some ⟨gl, 0, none⟩) 1 1]
theorem info60 : (Tryz.prog.info? 60).map (fun i => (i.zero, i.size, i.bytes)) = some (some (.agg #[.string { data := #[] }, i64 0, i64 0, .bool false]), 4, 40) := by kernel_rfl
attribute [local go_sem ↓] appX_eq
theorem FZ0 : FZ 0 := ⟨by kernel_rfl, by kernel_rfl⟩
section
variable {lab lab1 : Lab} {w w1 : World} {b : Nat} {W W1 W2 : CW} {T T2 : ByteArray} {k n : Int} {f : Nat} {is : Bool} {t : ByteArray} {a1 a2 : Option Addr} {c1 c2 : Nat} {j : JV} {gk gl : Nat}
set_option maxRecDepth 100000 in
set_option maxHeartbeats 2000000 in
theorem clean_one (w : World) : Calls Tryz.prog 25 #[oneV gk gl] w fun e w' => e = .returned (.bool true) ∧ Below w.heap.size w w' := by
  unfold oneV
  have e1 : (FloatKind.f64.format.order 0 0 == some .eq) = true := FZ0.1
  have hb : ∀ o, Below w.heap.size w (w.alloc o) := fun o => (Below.refl _ _).alloc (Nat.le_refl _) o
  have HB := Lib.hid hb
  clear hb
  go_enter Tryz.func25, Tryz.ntmps25
  go_wp2
  go_ret
  exact ⟨rfl, HB.out _⟩
theorem wpOp_skip {P : Program} {Q : Exit → Act → World → Prop} {l : List Oper} {i : Nat} {o : Oper} {a : Act} {w w2 : World} {R : Act → World → Prop} (ho : l[i]? = some o) (hg : o.guard = none) (hrun : (execOp a.eval o).run P w = .ok .skip w2) (k : R (a.put o.dst undef) w2) : wpOp P l.toArray Q i R a w := by
  have hw : Region.wanted o (yielded l.toArray a.tmps) = true := by simp [Region.wanted, hg]
  unfold wpOp
  simp only [List.getElem?_toArray, ho, hw, if_true]
  left
  unfold Oper.wp
  rw [hrun]
  exact k
/-- What the entries may turn. -/
abbrev EM (x : Nat) : Prop := x = 40 ∨ x = 41 ∨ x = 42 ∨ x = 46 ∨ x = 47
/-- The caller's map of one key, and the cell of places. -/
structure OneAt (lab : Lab) (w : World) (gk gl pc : Nat) (k n : Int) (f : Nat) (is : Bool) (t : ByteArray) (a1 : Option Addr) (c1 : Nat) (a2 : Option Addr) (c2 : Nat) : Prop where
  key : Cl 0 lab w gk #[.string bV] 9
  list : Cl 0 lab w gl #[.int .i64 k, .int .i64 n, .float .f64 f, .bool is, .string t, .slice a1 0 c1, .slice a2 0 c2] 26
  pl : Cl 47 lab w pc #[.slice none 0 0] 31
theorem OneAt.mv {M : Nat → Prop} {pc : Nat} (h : OneAt lab w gk gl pc k n f is t a1 c1 a2 c2) (m : Mv M w lab w1 lab1) (h0 : ¬ M 0) (h47 : ¬ M 47) : OneAt lab1 w1 gk gl pc k n f is t a1 c1 a2 c2 := ⟨h.key.mv m h0, h.list.mv m h0, h.pl.mv m h47⟩
theorem WAt.cLine (h : WAt lab w b W) : w.cell? ⟨b, 1, none⟩ = some (i64 W.line) := by
  obtain ⟨sv, kn, va, us, inn, h⟩ := h
  exact h.cl.cell 1
theorem WAt.cText (h : WAt lab w b W) : w.cell? ⟨b, 0, none⟩ = some (.string W.text) := by
  obtain ⟨sv, kn, va, us, inn, h⟩ := h
  exact h.cl.cell 0
/-- A place was added. -/
structure PlAt (lab : Lab) (w : World) (pc : Nat) : Prop where
  ex : ∃ pv x l c u, Cl 47 lab w pc #[pv] 31 ∧ Rw 0 46 lab w 60 4 pv 1 [.string x, .int .i64 l, .int .i64 c, .bool u]
theorem PlAt.mv {M : Nat → Prop} {pc : Nat} (h : PlAt lab w pc) (m : Mv M w lab w1 lab1) (h46 : ¬ M 46) (h47 : ¬ M 47) : PlAt lab1 w1 pc := by
  obtain ⟨pv, x, l, c, u, h1, h2⟩ := h.ex
  exact ⟨pv, x, l, c, u, h1.mv m h47, h2.mv m h46⟩
/-- The entry of the one key, as it stands. -/
def EntSp (j : JV) (T : ByteArray) : Prop := ∃ (kb : Nat) (Kt : ByteArray) (q : Nat) (V E : ByteArray), T = blankT kb ++ ((Kt ++ sepT q) ++ (V ++ E)) ∧ KeySp bV Kt ∧ q < 6 ∧ LeafSp j V ∧ ((∃ e, e < 5 ∧ E = endT e ∧ (byteAt V (V.size - 1) = 10 → e = 0)) ∨ E = ⟨#[59]⟩)
/-- Where the entries ended. -/
def Fin (lab : Lab) (w : World) (b pc : Nat) (W : CW) (j : JV) (wr : World) : Prop :=
  ∃ W' T lab', WAt lab' wr b W' ∧ W'.text = W.text ++ T ∧ T.size ≤ 300 ∧ W'.line ≤ 1000000 ∧ (W'.bad = false → EntSp j T) ∧ W'.used = W.used ∧ PlAt lab' wr pc ∧ Mv EM w lab wr lab'
/-- The same but for what is known. -/
structure Same (W W' : CW) : Prop where
  text : W'.text = W.text
  line : W'.line = W.line
  bad : W'.bad = W.bad
  used : W'.used = W.used
def qd : ByteArray := ⟨#[46, 45, 95, 48, 49, 50, 51, 52, 53, 54, 55, 56, 57]⟩
def endRow : Array Value := #[.string ⟨#[10]⟩, .string ⟨#[59, 10]⟩, .string ⟨#[32, 35, 32, 101, 110, 100, 10]⟩, .string ⟨#[10, 10]⟩, .string ⟨#[32, 47, 47, 32, 101, 110, 100, 10]⟩, .string ⟨#[59]⟩, .string ⟨#[44]⟩]
def endS (e : Nat) : ByteArray := match e with
  | 5 => ⟨#[59]⟩
  | 6 => ⟨#[44]⟩
  | e => endT e
theorem end_get (e : Nat) (h : e < 7) : endRow[e]? = some (.string (endS e)) := by
  match e, h with
  | 0, _ => rfl
  | 1, _ => rfl
  | 2, _ => rfl
  | 3, _ => rfl
  | 4, _ => rfl
  | 5, _ => rfl
  | 6, _ => rfl
set_option maxRecDepth 100000 in
set_option maxHeartbeats 8000000 in
theorem entries1 {pc : Nat} (h : WAt lab w b W) (hnv : W.nv = 0) (hb : W.bad = false) (ho : OneAt lab w gk gl pc k n f is t a1 c1 a2 c2) (hl : LeafOk f k n is t j) (ht : W.text.size ≤ 1000) (hln : W.line ≤ 1000) (hkn : W.known.length ≤ 1000) :
    Calls Tryz.prog 29 #[.pointer (some ⟨b, 0, none⟩), oneV gk gl, .string { data := #[] }, .pointer (some ⟨pc, 0, none⟩), .int .i64 0] w fun e w' => e = .returned (.tuple #[]) ∧ Fin lab w b pc W j w' := by
  have hmv : ∀ o, Mv (fun _ => False) w lab (w.alloc o) (lab.ext w.heap.size 45) := fun o => Mv.alloc _ _ _ _
  have h3 : ∀ o, (w.alloc o).cell? ⟨b, 3, none⟩ = some (.bool false) := fun o => by have := (h.mv (hmv o) (fun _ _ h => h)).c3; rwa [hb] at this
  have f3 : ∀ o, (w.alloc o).frozen? ⟨b, 3, none⟩ = false := fun o => (h.mv (hmv o) (fun _ _ h => h)).f3
  have hcl := fun w => clean_one (gk := gk) (gl := gl) w
  have HK := Lib.hid h
  have HO := Lib.hid ho
  have HMV := Lib.hid hmv
  have HL := Lib.hid hl
  clear hmv h ho hl
  unfold oneV at *
  go_enter Tryz.func29, Tryz.ntmps29
  go_wp2_with fail
  refine (hcl _).mono ?_
  rintro e w1 ⟨rfl, hb1⟩
  obtain ⟨bx, hbx⟩ : ∃ bx, bx = Obj.cells #[Value.int IntKind.i64 6, .int .i64 0, .float .f64 0, .bool false, .string { data := #[] }, .slice (some ⟨gk, 0, none⟩) 1 1, .slice (some ⟨gl, 0, none⟩) 1 1] 26 := ⟨_, rfl⟩
  obtain ⟨lab1, hlab1⟩ : ∃ l, l = (lab.ext w.heap.size 45).ext (w.alloc bx).heap.size 45 := ⟨_, rfl⟩
  rw [← hbx] at hb1
  have m01 : Mv (fun _ => False) w lab w1 lab1 := by rw [hlab1]; exact (HMV.out bx).trans (Mv.below (M := fun _ => False) hb1 (lab.ext w.heap.size 45) 45) (fun _ h => h)
  have h1 := HK.out.mv m01 (fun _ _ h => h)
  have c3 := h1.c3
  have fr3 := h1.f3
  rw [hb] at c3
  obtain ⟨h1f, m1f⟩ := h1.flag false
  have hbxl : lab1 w.heap.size = 45 := by rw [hlab1, Lab.ext_lt (by rw [World.size_alloc]; omega), Lab.ext_ge (Nat.le_refl _)]
  have hblk : Cl 45 lab1 w1 w.heap.size #[Value.int IntKind.i64 6, .int .i64 0, .float .f64 0, .bool false, .string { data := #[] }, .slice (some ⟨gk, 0, none⟩) 1 1, .slice (some ⟨gl, 0, none⟩) 1 1] 26 := by
    refine ⟨?_, hbxl⟩
    rw [hb1.block w.heap.size (by rw [World.size_alloc]; omega), hbx]
    exact heap_alloc_new w _
  have ho1 := (HO.out.mv m01 (fun h => h) (fun h => h)).mv m1f (by decide) (by decide)
  have hblks := hblk.mv m1f (by decide)
  obtain ⟨w1s, hw1s⟩ : ∃ x, x = w1.setCell ⟨b, 3, none⟩ (.bool false) := ⟨_, rfl⟩
  rw [← hw1s] at h1f m1f ho1 hblks
  have q5 : w1s.cell? ⟨w.heap.size, 5, none⟩ = some (.slice (some ⟨gk, 0, none⟩) 1 1) := hblks.cell 5
  have q6 : w1s.cell? ⟨w.heap.size, 6, none⟩ = some (.slice (some ⟨gl, 0, none⟩) 1 1) := hblks.cell 6
  have k0 : w1s.cell? ⟨gk, 0, none⟩ = some (.string bV) := ho1.key.cell 0
  have c3s : w1s.cell? ⟨b, 3, none⟩ = some (.bool false) := h1f.c3
  have fr3s : w1s.frozen? ⟨b, 3, none⟩ = false := h1f.f3
  have HM1 := Lib.hid ((m01.mono (M' := EM) (fun _ h => h.elim)).trans m1f (fun _ h => .inl h))
  have HH1 := Lib.hid h1f
  have HO1 := Lib.hid ho1
  have HB1 := Lib.hid hblks
  clear h1 h1f m1f ho1 hblk m01 hb1 hcl hblks
  go_upto_region 2 with fail
  rw [← hw1s]
  clear hw1s c3 fr3 h3 f3 hbxl hlab1 hbx
  go_wp2_with fail
  go_loopw [43] (fun i wr => (i = .int .i64 0 ∧ wr = w1s) ∨ (i = .int .i64 1 ∧ Fin lab w b pc W j wr)) (fun i _ => 1 - (RowKit.intOf i).toNat)
  case atStart => exact .inl ⟨rfl, rfl⟩
  case round =>
    rcases hrel with ⟨rfl, hwr⟩ | ⟨rfl, hfin⟩
    · have hwr' := hwr.symm
      clear hwr
      subst hwr'
      obtain ⟨h2, m2⟩ := HH1.out.flag false
      obtain ⟨w2, hw2⟩ : ∃ x, x = w1s.setCell ⟨b, 3, none⟩ (.bool false) := ⟨_, rfl⟩
      have hO2 := HO1.out.mv m2 (by decide) (by decide)
      have hB2 := HB1.out.mv m2 (by decide)
      rw [← hw2] at h2 m2 hO2 hB2
      have HM2 := Lib.hid (HM1.out.trans m2 (fun _ h => .inl h))
      go_upto_region 7 with fail
      rw [← hw2]
      clear hw2 m2 HH1 HO1 HB1 HM1
      go_wp2_with fail
      refine (blank_c h2 (by show W.text.size ≤ _; omega) (by show W.line ≤ _; omega)).mono ?_
      rintro e w3 ⟨rfl, W3, kb, h3, hw3, m3⟩
      have hO3 := hO2.mv m3 (by decide) (by decide)
      have hB3 := hB2.mv m3 (by decide)
      have HM3 := Lib.hid (HM2.out.trans m3 (fun _ h => .inl h))
      have cl1 := h3.cLine
      have hln3 := hw3.line_le
      have hsz3 := hw3.size
      have hbl : (blankT kb).size ≤ 20 := by unfold blankT; split <;> decide
      have p0 : w3.cell? ⟨pc, 0, none⟩ = some (.slice none 0 0) := hO3.pl.cell 0
      obtain ⟨i0, hi0, hz0, hz1, hz2⟩ := info_parts info60
      obtain ⟨gg, cap2, w4, hrun, hown4, hg4, hat4, hlt4⟩ := run_append_lies (P := Tryz.prog) (w3.alloc (.cells #[.string (({ data := #[] } : ByteArray) ++ { data := #[47] } ++ bV), i64 W3.line, .int .i64 0, .bool false] 60)) 31 31 0 60 i0 _ 4 40 Tryz.underlying31 hi0 hz0 hz1 hz2 rfl (by omega) (.slice none 0 0) 0 [] ⟨by simp, .inl ⟨rfl, rfl⟩⟩
        ⟨w3.heap.size, 0, none⟩ 1 1 [.string (({ data := #[] } : ByteArray) ++ { data := #[47] } ++ bV), i64 W3.line, .int .i64 0, .bool false] (by rfl) (World.news_of_block (cs := #[.string (({ data := #[] } : ByteArray) ++ { data := #[47] } ++ bV), i64 W3.line, .int .i64 0, .bool false]) (t := 60) (fr := (0, 0)) (heap_alloc_new w3 _)) (by simp; exact ⟨rfl, rfl, rfl, rfl⟩)
        (by omega) (by simp only [maxLen]; omega) (by omega) (Nat.zero_le _) (w3.heap.size + 1) (by rw [World.size_alloc])
      rw [appX_eq] at hrun
      have hg : w3.grownBy w4 none := World.grownBy.trans (World.grownBy_alloc w3 (.cells #[.string (({ data := #[] } : ByteArray) ++ { data := #[47] } ++ bV), i64 W3.line, .int .i64 0, .bool false] 60) none) hg4
      have m4 : Mv (· = 46) w3 lab1 w4 (lab1.ext w3.heap.size 46) := Mv.grown hg lab1 46 (fun k hk => by cases hk)
      have hggl : (lab1.ext w3.heap.size 46) gg = 46 := by
        rcases hat4 with e | e
        · cases e
        · rw [e]; exact Lab.ext_ge (by omega)
      have hO4 := hO3.mv m4 (by decide) (by decide)
      have hrw4 : Rw 0 46 (lab1.ext w3.heap.size 46) w4 60 4 (.slice (some ⟨gg, 0, none⟩) (0 + 1) cap2) 1 ([] ++ [.string (({ data := #[] } : ByteArray) ++ { data := #[47] } ++ bV), i64 W3.line, .int .i64 0, .bool false]) := ⟨hown4, fun k hk => by simp only [Value.ownBlock, Option.some.injEq] at hk; rw [← hk]; exact hggl⟩
      have p4 : w4.cell? ⟨pc, 0, none⟩ = some (.slice none 0 0) := hO4.pl.cell 0
      have pf4 : w4.frozen? ⟨pc, 0, none⟩ = false := hO4.pl.free 0
      have m5 : Mv (· = 47) w4 (lab1.ext w3.heap.size 46) (w4.setCell ⟨pc, 0, none⟩ (.slice (some ⟨gg, 0, none⟩) 1 cap2)) (lab1.ext w3.heap.size 46) := Mv.setCell _ _ _ _ hO4.pl.2
      obtain ⟨lab5, hlab5⟩ : ∃ x, x = lab1.ext w3.heap.size 46 := ⟨_, rfl⟩
      rw [← hlab5] at m4 hO4 hrw4 m5
      obtain ⟨w5, hw5⟩ : ∃ x, x = w4.setCell ⟨pc, 0, none⟩ (.slice (some ⟨gg, 0, none⟩) 1 cap2) := ⟨_, rfl⟩
      have hpl5 : PlAt lab5 w5 pc := ⟨_, _, _, _, _, by rw [hw5]; exact hO4.pl.set 0 _, by rw [hw5]; exact hrw4.mv m5 (by decide)⟩
      rw [← hw5] at m5
      have h5 := (h3.mv m4 (fun x hx => by omega)).mv m5 (fun x hx => by omega)
      have hB5 := (hB3.mv m4 (by decide)).mv m5 (by decide)
      have hlist5 := hO4.list.mv m5 (by decide)
      have HM5 := Lib.hid ((HM3.out.trans m4 (fun _ h => .inr (.inr (.inr (.inl h))))).trans m5 (fun _ h => .inr (.inr (.inr (.inr h)))))
      have HP5 := Lib.hid hpl5
      have q6' : w5.cell? ⟨w.heap.size, 6, none⟩ = some (.slice (some ⟨gl, 0, none⟩) 1 1) := hB5.cell 6
      have l0 : w5.cell? ⟨gl, 0, none⟩ = some (.int .i64 k) := hlist5.cell 0
      have HH5 := Lib.hid h5
      have HB5 := Lib.hid hB5
      have HL5 := Lib.hid hlist5
      have hk6 : (k == 6) = false := by cases HL.out <;> rfl
      clear h5 hB5 hlist5 hpl5 m4 m5 hO4 hrw4 hg hg4 hat4 hlt4 hown4 hO3 hB3 m3 hO2 hB2 hggl hlab5 h3 h2
      go_upto_region 11 with fail
      rw [← hw5]
      clear hw5 p4 pf4 hrun cl1 p0
      go_wp2_with fail
      refine (key_c HH5.out bV _ (by decide) (by rw [hsz3]; show W.text.size + _ ≤ _; omega) (by have : ((W.flag false).flag false).line = W.line := rfl; omega)).mono ?_
      rintro e w6 ⟨rfl, W6, Kt, q, lab6, h6, hw6, hq6, hKs, hbad6, m6⟩
      have hB6 := HB5.out.mv m6 (by decide)
      have hl6 := HL5.out.mv m6 (by decide)
      have HM6 := Lib.hid (HM5.out.trans m6 (fun _ h => .inl h))
      have HP6 := Lib.hid (HP5.out.mv m6 (by decide) (by decide))
      have r6 : w6.cell? ⟨w.heap.size, 6, none⟩ = some (.slice (some ⟨gl, 0, none⟩) 1 1) := hB6.cell 6
      have l0' : w6.cell? ⟨gl, 0, none⟩ = some (.int .i64 k) := hl6.cell 0
      have l1' : w6.cell? ⟨gl, 1, none⟩ = some (.int .i64 n) := hl6.cell 1
      have l2' : w6.cell? ⟨gl, 2, none⟩ = some (.float .f64 f) := hl6.cell 2
      have l3' : w6.cell? ⟨gl, 3, none⟩ = some (.bool is) := hl6.cell 3
      have l4' : w6.cell? ⟨gl, 4, none⟩ = some (.string t) := hl6.cell 4
      have l5' : w6.cell? ⟨gl, 5, none⟩ = some (.slice a1 0 c1) := hl6.cell 5
      have l6' : w6.cell? ⟨gl, 6, none⟩ = some (.slice a2 0 c2) := hl6.cell 6
      have hsz6 := hw6.size
      have hln6 := hw6.line_le
      have hsp6 : (Kt ++ sepT q).size ≤ 6 := by
        have hs := (show (sepT q).size ≤ 3 by match q, hq6 with | 0, _ => decide | 1, _ => decide | 2, _ => decide | 3, _ => decide | 4, _ => decide | 5, _ => decide)
        have h1 : bV.size = 1 := rfl
        rw [ByteArray.size_append]
        omega
      have hff : ((W.flag false).flag false).line = W.line := rfl
      have hft : ((W.flag false).flag false).text.size = W.text.size := rfl
      have hnv6 : W6.nv = 0 := by rw [hw6.nv, hw3.nv]; exact hnv
      have hV := Lib.hid (value_leaf (a1 := a1) (c1 := c1) (a2 := a2) (c2 := c2) h6 hnv6 HL.out 1 (by decide) (by omega) (by omega))
      have HW6 := Lib.hid hw6
      have HW3 := Lib.hid hw3
      have HB6 := Lib.hid (And.intro hB6 hl6)
      have HBD6 := Lib.hid hbad6
      clear h6 hB6 hl6 m6 hw6 hw3 hbad6 HB5 HL5 HP5 HM5 HH5
      unfold leafV at *
      go_wp2_with fail
      refine hV.out.mono ?_
      rintro e w7 ⟨rfl, W7, V7, lab7, h7, hw7, hT7, hbad7, m7⟩
      have hB7 := HB6.out.1.mv m7 (by decide)
      have hl7 := HB6.out.2.mv m7 (by decide)
      have HM7 := Lib.hid (HM6.out.trans m7 (fun _ h => .inl h))
      have HP7 := Lib.hid (HP6.out.mv m7 (by decide) (by decide))
      have HH7 := Lib.hid h7
      have HB7 := Lib.hid (And.intro hB7 hl7)
      have HW7 := Lib.hid hw7
      have HBD7 := Lib.hid hbad7
      have hsz7 := hw7.size
      have hln7 := hw7.line_le
      clear h7 hB7 hl7 m7 hw7 hbad7 HB6 HP6 HM6 hV r6 l0' l1' l2' l3' l4' l5' l6' l0 q6'
      go_upto_region 17 with fail
      go_cut [43, 152] from 43 to 210 (fun s43 s152 wx => s43 = .int .i64 0 ∧ ∃ z lab8, s152 = .bool z ∧ WAt lab8 wx b W7 ∧ PlAt lab8 wx pc ∧ Cl 45 lab8 wx w.heap.size #[Value.int IntKind.i64 6, .int .i64 0, .float .f64 0, .bool false, .string { data := #[] }, .slice (some ⟨gk, 0, none⟩) 1 1, .slice (some ⟨gl, 0, none⟩) 1 1] 26 ∧ Cl 0 lab8 wx gl #[.int .i64 k, .int .i64 n, .float .f64 f, .bool is, .string t, .slice a1 0 c1, .slice a2 0 c2] 26 ∧ Mv EM w lab wx lab8)
      case first =>
        go_wp2_with fail
        refine (confBare_c bV (by decide) _).mono ?_
        rintro e w8 ⟨⟨ok, rfl, _⟩, hb8⟩
        have m8 : Mv (fun _ => False) w7 lab7 w8 (lab7.ext w7.heap.size 45) := Mv.below hb8 lab7 45
        have HX := Lib.hid (And.intro (HH7.out.mv m8 (fun _ _ h => h)) (And.intro (HP7.out.mv m8 (fun h => h) (fun h => h)) (And.intro (HB7.out.1.mv m8 (fun h => h)) (And.intro (HB7.out.2.mv m8 (fun h => h)) (HM7.out.trans m8 (fun _ h => h.elim))))))
        clear m8 hb8
        cases ok with
        | false =>
          go_wp2_with fail
          go_meet
          case rel => exact ⟨rfl, false, _, rfl, HX.out⟩
        | true =>
          go_wp2_with fail
          refine (confPlain_c bV qd (by decide) (by decide)).mono ?_
          rintro e w9 ⟨⟨ok, rfl, _⟩, nn, rfl⟩
          have m9 : Mv (fun _ => False) w8 (lab7.ext w7.heap.size 45) (w8.drewN nn) (lab7.ext w7.heap.size 45) := (Mv.refl _ _ _).drewN nn
          have HY := Lib.hid (And.intro (HX.out.1.mv m9 (fun _ _ h => h)) (And.intro (HX.out.2.1.mv m9 (fun h => h) (fun h => h)) (And.intro (HX.out.2.2.1.mv m9 (fun h => h)) (And.intro (HX.out.2.2.2.1.mv m9 (fun h => h)) (HX.out.2.2.2.2.trans m9 (fun _ h => h.elim))))))
          clear m9
          go_wp2_with fail
          go_meet
          case rel => exact ⟨rfl, ok, _, rfl, HY.out⟩
      case rest =>
        obtain ⟨rfl, z, lab8, rfl, h8, hp8, hB8, hl8, m8⟩ := hcut
        go_upto_if 152 with fail
        go_cut [43] from 43 to 210 (fun s43 wx => s43 = .int .i64 0 ∧ ∃ W9 lab9, WAt lab9 wx b W9 ∧ Same W7 W9 ∧ PlAt lab9 wx pc ∧ Cl 45 lab9 wx w.heap.size #[Value.int IntKind.i64 6, .int .i64 0, .float .f64 0, .bool false, .string { data := #[] }, .slice (some ⟨gk, 0, none⟩) 1 1, .slice (some ⟨gl, 0, none⟩) 1 1] 26 ∧ Mv EM w lab wx lab9)
        case first =>
          cases z with
          | false =>
            go_wp2_with fail
            go_meet
            case rel => exact ⟨rfl, W7, lab8, h8, ⟨rfl, rfl, rfl, rfl⟩, hp8, hB8, m8⟩
          | true =>
            obtain ⟨sv, kn, va, us, inn, hx8⟩ := h8
            have hkn7 : W7.known.length ≤ 1000 := by rw [HW7.out.known, HW6.out.known, HW3.out.known]; exact hkn
            have hnv7 : W7.nv ≤ 1000 := by rw [HW7.out.nv, hnv6]; omega
            go_wp2_with fail
            refine know_region (xs := [.int .i64 k, .int .i64 n, .float .f64 f, .bool is, .string t, .slice a1 0 c1, .slice a2 0 c2]) hx8 bV w.heap.size gl mixed (by kernel_rfl) rfl rfl (show 200 ≤ 211 by omega) ?_ ?_
            · intro L a' lab' w' i o hL ho hf hall hr
              match i, ho with
              | 0, rfl =>
                have e0 : a'.tmps.getD 0 undef = Value.pointer (some ⟨b, 0, none⟩) := hr.keep 0 (by omega)
                rw [Array.getD_eq_getD_getElem?] at e0
                exact wpOp_run (v := Value.pointer (some ⟨b, 0, none⟩)) (w2 := w') rfl rfl (by simp [execOp, Act.eval, go_sem, e0]) ⟨lab', hr.plain hL (show 200 ≤ 211 by omega) 0 (by decide) _ rfl (fun e => absurd e (by decide)) (fun e => absurd e (by decide))⟩
              | 1, rfl =>
                have e0 : a'.tmps.getD 0 undef = Value.pointer (some ⟨b, 0, none⟩) := hr.keep 0 (by omega)
                rw [Array.getD_eq_getD_getElem?] at e0
                exact wpOp_run (v := Value.pointer (some ⟨b, 0, none⟩)) (w2 := w') rfl rfl (by simp [execOp, Act.eval, go_sem, e0]) ⟨lab', hr.plain hL (show 200 ≤ 211 by omega) 1 (by decide) _ rfl (fun e => absurd e (by decide)) (fun e => absurd e (by decide))⟩
              | 2, rfl =>
                have e0 : a'.tmps.getD 0 undef = Value.pointer (some ⟨b, 0, none⟩) := hr.keep 0 (by omega)
                rw [Array.getD_eq_getD_getElem?] at e0
                exact wpOp_run (v := Value.pointer (some ⟨b, 0, none⟩)) (w2 := w') rfl rfl (by simp [execOp, Act.eval, go_sem, e0]) ⟨lab', hr.plain hL (show 200 ≤ 211 by omega) 2 (by decide) _ rfl (fun e => absurd e (by decide)) (fun e => absurd e (by decide))⟩
              | 3, rfl =>
                have e0 : a'.tmps.getD 155 undef = Value.pointer (some ⟨b, 0, none⟩) := hr.got 2 _ (by decide) (hall ⟨2, .data⟩ (by simp) rfl) rfl
                rw [Array.getD_eq_getD_getElem?] at e0
                exact wpOp_run (v := Value.pointer (some ⟨b, 0, none⟩)) (w2 := w') rfl rfl (by simp [execOp, Act.eval, go_sem, e0]) ⟨lab', hr.plain hL (show 200 ≤ 211 by omega) 3 (by decide) _ rfl (fun e => absurd e (by decide)) (fun e => absurd e (by decide))⟩
              | 4, rfl =>
                have e0 : a'.tmps.getD 156 undef = Value.pointer (some ⟨b, 0, none⟩) := hr.got 3 _ (by decide) (hall ⟨3, .data⟩ (by simp) rfl) rfl
                rw [Array.getD_eq_getD_getElem?] at e0
                exact wpOp_run (v := Value.pointer (some ⟨b, 4, none⟩)) (w2 := w') rfl rfl (by simp [execOp, Act.eval, go_sem, e0]) ⟨lab', hr.plain hL (show 200 ≤ 211 by omega) 4 (by decide) _ rfl (fun e => absurd e (by decide)) (fun e => absurd e (by decide))⟩
              | 5, rfl =>
                have h8f : L.getD 8 false = false := by
                  cases hc : L.getD 8 false with
                  | false => rfl
                  | true => rw [hr.ord.2.1 hc] at hf; cases hf
                have h22f : ¬ L.getD 22 false = true := fun e => by rw [hr.ord.1 e] at h8f; cases h8f
                have q := hr.cl.cell 4
                rw [if_neg h22f] at q
                have q' : w'.cell? ⟨b, 4, none⟩ = some kn := q
                have e0 : a'.tmps.getD 157 undef = Value.pointer (some ⟨b, 4, none⟩) := hr.got 4 _ (by decide) (hall ⟨4, .data⟩ (by simp) rfl) rfl
                rw [Array.getD_eq_getD_getElem?] at e0
                exact wpOp_run (v := kn) (w2 := w') rfl rfl (by simp [execOp, Act.eval, go_sem, e0, q']) ⟨lab', hr.plain hL (show 200 ≤ 211 by omega) 5 (by decide) _ rfl (fun _ => h8f) (fun e => absurd e (by decide))⟩
              | 6, rfl =>
                have e0 : a'.tmps.getD 11 undef = .string bV := hr.keep 11 (by omega)
                rw [Array.getD_eq_getD_getElem?] at e0
                exact wpOp_run (v := .string bV) (w2 := w') rfl rfl (by simp [execOp, Act.eval, go_sem, e0]) ⟨lab', hr.plain hL (show 200 ≤ 211 by omega) 6 (by decide) _ rfl (fun e => absurd e (by decide)) (fun e => absurd e (by decide))⟩
              | 7, rfl =>
                have e0 : a'.tmps.getD 159 undef = .string bV := hr.got 6 _ (by decide) (hall ⟨6, .data⟩ (by simp) rfl) rfl
                rw [Array.getD_eq_getD_getElem?] at e0
                exact wpOp_run (v := .slice (some ⟨w'.heap.size, 0, none⟩) 1 1) (w2 := w'.alloc (.cells #[.string bV] 9)) rfl rfl (by simp [execOp, Act.eval, go_sem, e0]) ⟨lab'.ext w'.heap.size 45, (hr.grow (Mv.alloc _ _ _ _)).slot hL (show 200 ≤ 211 by omega) 7 (by decide) _ hf (fun _ => ⟨_, rfl, heap_alloc_new w' _, Lab.ext_ge (Nat.le_refl _)⟩) (fun e => absurd e (by decide)) (fun e => absurd e (by decide)) (fun e => absurd e (by decide))⟩
              | 8, rfl =>
                have h7 := hall ⟨7, .data⟩ (by simp) rfl
                have h5t : L.getD 5 false = true := hall ⟨5, .data⟩ (by simp) rfl
                have hsf : L.getD 22 false = false := by
                  cases hc : L.getD 22 false with
                  | false => rfl
                  | true => rw [hr.ord.1 hc] at hf; cases hf
                obtain ⟨g, e0, hg⟩ := hr.g7 h7
                rw [Array.getD_eq_getD_getElem?] at e0
                have e1 : a'.tmps.getD 158 undef = kn := hr.got 5 _ (by decide) (hall ⟨5, .data⟩ (by simp) rfl) rfl
                rw [Array.getD_eq_getD_getElem?] at e1
                have hrw := hr.r1
                rw [if_neg (by rw [hf]; decide)] at hrw
                obtain ⟨i0, hi0, hz0, hz1, hz2⟩ := info_parts info9
                obtain ⟨gg, cap2, w2, hrun, hown2, hg2, hat2, hlt2⟩ := run_append_lies (P := Tryz.prog) w' 23 23 0 9 i0 _ 1 16 Tryz.underlying23 hi0 hz0 hz1 hz2 rfl (by omega) kn W7.known.length (W7.known.map Value.string) hrw.1
                  ⟨g, 0, none⟩ 1 1 [.string bV] (by rfl) (World.news_of_block (cs := #[.string bV]) (t := 9) (fr := (0, 0)) hg.1) (by simp; rfl)
                  (by omega) (by simp only [maxLen]; omega) (by omega) (Nat.zero_le _) w'.heap.size rfl
                rw [appX_eq] at hrun
                have m1 : Mv (· = 41) w' lab' w2 (lab'.ext w'.heap.size 41) := Mv.grown hg2 lab' 41 (fun x hx => hrw.2 x hx)
                have hrw2 : Rw 0 41 (lab'.ext w'.heap.size 41) w2 9 1 (.slice (some ⟨gg, 0, none⟩) (W7.known.length + 1) cap2) (W7.known.length + 1) (W7.known.map Value.string ++ [.string bV]) := by
                  refine ⟨hown2, fun x hx => ?_⟩
                  simp only [Value.ownBlock, Option.some.injEq] at hx
                  subst hx
                  rcases hat2 with e | e
                  · have := hrw.own_lab gg e
                    rw [Lab.ext_lt this.2.2]
                    exact this.1
                  · rw [e]; exact Lab.ext_ge (Nat.le_refl _)
                exact wpOp_run (v := .slice (some ⟨gg, 0, none⟩) (W7.known.length + 1) cap2) (w2 := w2) rfl rfl (by simp [Act.eval, go_sem, e0, e1]; rw [hrun]; rfl) ⟨_, hr.app1 hL (show 200 ≤ 211 by omega) m1 h5t hsf _ hrw2⟩
              | 9, rfl =>
                have e0 : a'.tmps.getD 0 undef = Value.pointer (some ⟨b, 0, none⟩) := hr.keep 0 (by omega)
                rw [Array.getD_eq_getD_getElem?] at e0
                exact wpOp_run (v := Value.pointer (some ⟨b, 0, none⟩)) (w2 := w') rfl rfl (by simp [execOp, Act.eval, go_sem, e0]) ⟨lab', hr.plain hL (show 200 ≤ 211 by omega) 9 (by decide) _ rfl (fun e => absurd e (by decide)) (fun e => absurd e (by decide))⟩
              | 10, rfl =>
                have e0 : a'.tmps.getD 162 undef = Value.pointer (some ⟨b, 0, none⟩) := hr.got 9 _ (by decide) (hall ⟨9, .data⟩ (by simp) rfl) rfl
                rw [Array.getD_eq_getD_getElem?] at e0
                exact wpOp_run (v := Value.pointer (some ⟨b, 0, none⟩)) (w2 := w') rfl rfl (by simp [execOp, Act.eval, go_sem, e0]) ⟨lab', hr.plain hL (show 200 ≤ 211 by omega) 10 (by decide) _ rfl (fun e => absurd e (by decide)) (fun e => absurd e (by decide))⟩
              | 11, rfl =>
                have e0 : a'.tmps.getD 163 undef = Value.pointer (some ⟨b, 0, none⟩) := hr.got 10 _ (by decide) (hall ⟨10, .data⟩ (by simp) rfl) rfl
                rw [Array.getD_eq_getD_getElem?] at e0
                exact wpOp_run (v := Value.pointer (some ⟨b, 5, none⟩)) (w2 := w') rfl rfl (by simp [execOp, Act.eval, go_sem, e0]) ⟨lab', hr.plain hL (show 200 ≤ 211 by omega) 11 (by decide) _ rfl (fun e => absurd e (by decide)) (fun e => absurd e (by decide))⟩
              | 12, rfl =>
                have h8f : L.getD 19 false = false := by
                  cases hc : L.getD 19 false with
                  | false => rfl
                  | true => rw [hr.ord.2.2.2 hc] at hf; cases hf
                have h22f : ¬ L.getD 25 false = true := fun e => by rw [hr.ord.2.2.1 e] at h8f; cases h8f
                have q := hr.cl.cell 5
                rw [if_neg h22f] at q
                have q' : w'.cell? ⟨b, 5, none⟩ = some va := q
                have e0 : a'.tmps.getD 164 undef = Value.pointer (some ⟨b, 5, none⟩) := hr.got 11 _ (by decide) (hall ⟨11, .data⟩ (by simp) rfl) rfl
                rw [Array.getD_eq_getD_getElem?] at e0
                exact wpOp_run (v := va) (w2 := w') rfl rfl (by simp [execOp, Act.eval, go_sem, e0, q']) ⟨lab', hr.plain hL (show 200 ≤ 211 by omega) 12 (by decide) _ rfl (fun e => absurd e (by decide)) (fun _ => h8f)⟩
              | 13, rfl =>
                have e0 : a'.tmps.getD 6 undef = .pointer (some ⟨w.heap.size, 0, none⟩) := hr.keep 6 (by omega)
                rw [Array.getD_eq_getD_getElem?] at e0
                exact wpOp_run (v := Value.pointer (some ⟨w.heap.size, 6, none⟩)) (w2 := w') rfl rfl (by simp [execOp, Act.eval, go_sem, e0]) ⟨lab', hr.plain hL (show 200 ≤ 211 by omega) 13 (by decide) _ rfl (fun e => absurd e (by decide)) (fun e => absurd e (by decide))⟩
              | 14, rfl =>
                have e0 : a'.tmps.getD 166 undef = Value.pointer (some ⟨w.heap.size, 6, none⟩) := hr.got 13 _ (by decide) (hall ⟨13, .data⟩ (by simp) rfl) rfl
                rw [Array.getD_eq_getD_getElem?] at e0
                have q : w'.cell? ⟨w.heap.size, 6, none⟩ = some (.slice (some ⟨gl, 0, none⟩) 1 1) := (hB8.mv hr.mv (by decide)).cell 6
                exact wpOp_run (v := Value.slice (some ⟨gl, 0, none⟩) 1 1) (w2 := w') rfl rfl (by simp [execOp, Act.eval, go_sem, e0, q]) ⟨lab', hr.plain hL (show 200 ≤ 211 by omega) 14 (by decide) _ rfl (fun e => absurd e (by decide)) (fun e => absurd e (by decide))⟩
              | 15, rfl =>
                have e0 : a'.tmps.getD 10 undef = .int .i64 0 := hr.keep 10 (by omega)
                rw [Array.getD_eq_getD_getElem?] at e0
                exact wpOp_run (v := .int .i64 0) (w2 := w') rfl rfl (by simp [execOp, Act.eval, go_sem, e0]) ⟨lab', hr.plain hL (show 200 ≤ 211 by omega) 15 (by decide) _ rfl (fun e => absurd e (by decide)) (fun e => absurd e (by decide))⟩
              | 16, rfl =>
                have e0 : a'.tmps.getD 167 undef = Value.slice (some ⟨gl, 0, none⟩) 1 1 := hr.got 14 _ (by decide) (hall ⟨14, .data⟩ (by simp) rfl) rfl
                rw [Array.getD_eq_getD_getElem?] at e0
                have e1 : a'.tmps.getD 168 undef = Value.int .i64 0 := hr.got 15 _ (by decide) (hall ⟨15, .data⟩ (by simp) rfl) rfl
                rw [Array.getD_eq_getD_getElem?] at e1
                exact wpOp_run (v := Value.pointer (some ⟨gl, 0, none⟩)) (w2 := w') rfl rfl (by simp [execOp, Act.eval, go_sem, e0, e1]) ⟨lab', hr.plain hL (show 200 ≤ 211 by omega) 16 (by decide) _ rfl (fun e => absurd e (by decide)) (fun e => absurd e (by decide))⟩
              | 17, rfl =>
                have e0 : a'.tmps.getD 169 undef = Value.pointer (some ⟨gl, 0, none⟩) := hr.got 16 _ (by decide) (hall ⟨16, .data⟩ (by simp) rfl) rfl
                rw [Array.getD_eq_getD_getElem?] at e0
                have hl8' := hl8.mv hr.mv (by decide)
                have q0 : w'.cell? ⟨gl, 0, none⟩ = some (.int .i64 k) := hl8'.cell 0
                have q1 : w'.cell? ⟨gl, 1, none⟩ = some (.int .i64 n) := hl8'.cell 1
                have q2 : w'.cell? ⟨gl, 2, none⟩ = some (.float .f64 f) := hl8'.cell 2
                have q3 : w'.cell? ⟨gl, 3, none⟩ = some (.bool is) := hl8'.cell 3
                have q4 : w'.cell? ⟨gl, 4, none⟩ = some (.string t) := hl8'.cell 4
                have q5 : w'.cell? ⟨gl, 5, none⟩ = some (.slice a1 0 c1) := hl8'.cell 5
                have q6 : w'.cell? ⟨gl, 6, none⟩ = some (.slice a2 0 c2) := hl8'.cell 6
                exact wpOp_run (v := Value.agg #[.int .i64 k, .int .i64 n, .float .f64 f, .bool is, .string t, .slice a1 0 c1, .slice a2 0 c2]) (w2 := w') rfl rfl (by simp [execOp, Act.eval, go_sem, e0, q0, q1, q2, q3, q4, q5, q6]) ⟨lab', hr.plain hL (show 200 ≤ 211 by omega) 17 (by decide) _ rfl (fun e => absurd e (by decide)) (fun e => absurd e (by decide))⟩
              | 18, rfl =>
                have e0 : a'.tmps.getD 170 undef = Value.agg #[.int .i64 k, .int .i64 n, .float .f64 f, .bool is, .string t, .slice a1 0 c1, .slice a2 0 c2] := hr.got 17 _ (by decide) (hall ⟨17, .data⟩ (by simp) rfl) rfl
                rw [Array.getD_eq_getD_getElem?] at e0
                exact wpOp_run (v := .slice (some ⟨w'.heap.size, 0, none⟩) 1 1) (w2 := w'.alloc (.cells #[.int .i64 k, .int .i64 n, .float .f64 f, .bool is, .string t, .slice a1 0 c1, .slice a2 0 c2] 26)) rfl rfl (by simp [execOp, Act.eval, go_sem, e0]) ⟨lab'.ext w'.heap.size 45, (hr.grow (Mv.alloc _ _ _ _)).slot hL (show 200 ≤ 211 by omega) 18 (by decide) _ hf (fun e => absurd e (by decide)) (fun _ => ⟨_, rfl, heap_alloc_new w' _, Lab.ext_ge (Nat.le_refl _)⟩) (fun e => absurd e (by decide)) (fun e => absurd e (by decide))⟩
              | 19, rfl =>
                have h7 := hall ⟨18, .data⟩ (by simp) rfl
                have h5t : L.getD 12 false = true := hall ⟨12, .data⟩ (by simp) rfl
                have hsf : L.getD 25 false = false := by
                  cases hc : L.getD 25 false with
                  | false => rfl
                  | true => rw [hr.ord.2.2.1 hc] at hf; cases hf
                obtain ⟨g, e0, hg⟩ := hr.g18 h7
                rw [Array.getD_eq_getD_getElem?] at e0
                have e1 : a'.tmps.getD 165 undef = va := hr.got 12 _ (by decide) (hall ⟨12, .data⟩ (by simp) rfl) rfl
                rw [Array.getD_eq_getD_getElem?] at e1
                have hrw := hr.r2
                rw [if_neg (by rw [hf]; decide)] at hrw
                obtain ⟨i0, hi0, hz0, hz1, hz2⟩ := info_parts info26z
                obtain ⟨gg, cap2, w2, hrun, hown2, hg2, hat2, hlt2⟩ := run_append_lies (P := Tryz.prog) w' 24 24 0 26 i0 _ 7 96 Tryz.underlying24 hi0 hz0 hz1 hz2 rfl (by omega) va W7.nv (W7.vals) hrw.1
                  ⟨g, 0, none⟩ 1 1 [.int .i64 k, .int .i64 n, .float .f64 f, .bool is, .string t, .slice a1 0 c1, .slice a2 0 c2] (by rfl) (World.news_of_block (cs := #[.int .i64 k, .int .i64 n, .float .f64 f, .bool is, .string t, .slice a1 0 c1, .slice a2 0 c2]) (t := 26) (fr := (0, 0)) hg.1) (by simp; exact ⟨rfl, rfl, rfl, rfl, rfl, rfl, rfl⟩)
                  (by omega) (by simp only [maxLen]; omega) (by omega) (Nat.zero_le _) w'.heap.size rfl
                rw [appX_eq] at hrun
                have m1 : Mv (· = 42) w' lab' w2 (lab'.ext w'.heap.size 42) := Mv.grown hg2 lab' 42 (fun x hx => hrw.2 x hx)
                have hrw2 : Rw 0 42 (lab'.ext w'.heap.size 42) w2 26 7 (.slice (some ⟨gg, 0, none⟩) (W7.nv + 1) cap2) (W7.nv + 1) (W7.vals ++ [.int .i64 k, .int .i64 n, .float .f64 f, .bool is, .string t, .slice a1 0 c1, .slice a2 0 c2]) := by
                  refine ⟨hown2, fun x hx => ?_⟩
                  simp only [Value.ownBlock, Option.some.injEq] at hx
                  subst hx
                  rcases hat2 with e | e
                  · have := hrw.own_lab gg e
                    rw [Lab.ext_lt this.2.2]
                    exact this.1
                  · rw [e]; exact Lab.ext_ge (Nat.le_refl _)
                exact wpOp_run (v := .slice (some ⟨gg, 0, none⟩) (W7.nv + 1) cap2) (w2 := w2) rfl rfl (by simp [Act.eval, go_sem, e0, e1]; rw [hrun]; rfl) ⟨_, hr.app2 hL (show 200 ≤ 211 by omega) m1 h5t hsf _ hrw2⟩
              | 20, rfl =>
                have e0 : a'.tmps.getD 153 undef = Value.pointer (some ⟨b, 0, none⟩) := hr.got 0 _ (by decide) (hall ⟨0, .data⟩ (by simp) rfl) rfl
                rw [Array.getD_eq_getD_getElem?] at e0
                exact wpOp_run (v := Value.pointer (some ⟨b, 0, none⟩)) (w2 := w') rfl rfl (by simp [execOp, Act.eval, go_sem, e0]) ⟨lab', hr.plain hL (show 200 ≤ 211 by omega) 20 (by decide) _ rfl (fun e => absurd e (by decide)) (fun e => absurd e (by decide))⟩
              | 21, rfl =>
                have e0 : a'.tmps.getD 173 undef = Value.pointer (some ⟨b, 0, none⟩) := hr.got 20 _ (by decide) (hall ⟨20, .data⟩ (by simp) rfl) rfl
                rw [Array.getD_eq_getD_getElem?] at e0
                exact wpOp_run (v := Value.pointer (some ⟨b, 4, none⟩)) (w2 := w') rfl rfl (by simp [execOp, Act.eval, go_sem, e0]) ⟨lab', hr.plain hL (show 200 ≤ 211 by omega) 21 (by decide) _ rfl (fun e => absurd e (by decide)) (fun e => absurd e (by decide))⟩
              | 22, rfl =>
                have h8t : L.getD 8 false = true := hall ⟨8, .data⟩ (by simp) rfl
                have e0 : a'.tmps.getD 174 undef = Value.pointer (some ⟨b, 4, none⟩) := hr.got 21 _ (by decide) (hall ⟨21, .data⟩ (by simp) rfl) rfl
                rw [Array.getD_eq_getD_getElem?] at e0
                have hrw := hr.r1
                rw [if_pos h8t] at hrw
                obtain ⟨A, cc, e1⟩ := hrw.shape
                have hst := hr.store4 hL h8t undef
                rw [e1] at hst
                rw [Array.getD_eq_getD_getElem?] at e1
                have q := hr.cl.cell 4
                have fz := hr.cl.free 4
                obtain ⟨old, q'⟩ : ∃ old, w'.cell? ⟨b, 4, none⟩ = some old := ⟨_, q⟩
                exact wpOp_skip (w2 := w'.setCell ⟨b, 4, none⟩ _) rfl rfl (by simp [execOp, Act.eval, go_sem, e0, e1, q', fz]) ⟨lab', hst⟩
              | 23, rfl =>
                have e0 : a'.tmps.getD 154 undef = Value.pointer (some ⟨b, 0, none⟩) := hr.got 1 _ (by decide) (hall ⟨1, .data⟩ (by simp) rfl) rfl
                rw [Array.getD_eq_getD_getElem?] at e0
                exact wpOp_run (v := Value.pointer (some ⟨b, 0, none⟩)) (w2 := w') rfl rfl (by simp [execOp, Act.eval, go_sem, e0]) ⟨lab', hr.plain hL (show 200 ≤ 211 by omega) 23 (by decide) _ rfl (fun e => absurd e (by decide)) (fun e => absurd e (by decide))⟩
              | 24, rfl =>
                have e0 : a'.tmps.getD 175 undef = Value.pointer (some ⟨b, 0, none⟩) := hr.got 23 _ (by decide) (hall ⟨23, .data⟩ (by simp) rfl) rfl
                rw [Array.getD_eq_getD_getElem?] at e0
                exact wpOp_run (v := Value.pointer (some ⟨b, 5, none⟩)) (w2 := w') rfl rfl (by simp [execOp, Act.eval, go_sem, e0]) ⟨lab', hr.plain hL (show 200 ≤ 211 by omega) 24 (by decide) _ rfl (fun e => absurd e (by decide)) (fun e => absurd e (by decide))⟩
              | 25, rfl =>
                have h8t : L.getD 19 false = true := hall ⟨19, .data⟩ (by simp) rfl
                have e0 : a'.tmps.getD 176 undef = Value.pointer (some ⟨b, 5, none⟩) := hr.got 24 _ (by decide) (hall ⟨24, .data⟩ (by simp) rfl) rfl
                rw [Array.getD_eq_getD_getElem?] at e0
                have hrw := hr.r2
                rw [if_pos h8t] at hrw
                obtain ⟨A, cc, e1⟩ := hrw.shape
                have hst := hr.store5 hL h8t undef
                rw [e1] at hst
                rw [Array.getD_eq_getD_getElem?] at e1
                have q := hr.cl.cell 5
                have fz := hr.cl.free 5
                obtain ⟨old, q'⟩ : ∃ old, w'.cell? ⟨b, 5, none⟩ = some old := ⟨_, q⟩
                exact wpOp_skip (w2 := w'.setCell ⟨b, 5, none⟩ _) rfl rfl (by simp [execOp, Act.eval, go_sem, e0, e1, q', fz]) ⟨lab', hst⟩
            · intro u lab' w' hu hW hm
              match u, hu with
              | [y153, y154, y155, y156, y157, y158, y159, y160, y161, y162, y163, y164, y165, y166, y167, y168, y169, y170, y171, y172, y173, y174, y175, y176], _ =>
                have HX9 := Lib.hid (And.intro hW (And.intro (hp8.mv hm (by decide) (by decide)) (And.intro (hB8.mv hm (by decide)) (m8.trans hm (fun x hx => by rcases hx with h | h | h; exact .inl h; exact .inr (.inl h); exact .inr (.inr (.inl h)))))))
                simp only [List.take_succ_cons, List.take_zero, List.drop_succ_cons, List.drop_zero, List.cons_append, List.nil_append]
                clear hx8 hW hm hp8 hB8 hl8 m8
                go_wp2_with fail
                go_meet
                case rel => exact ⟨rfl, _, lab', HX9.out.1, ⟨rfl, rfl, rfl, rfl⟩, HX9.out.2.1, HX9.out.2.2.1, HX9.out.2.2.2⟩
        case rest =>
          obtain ⟨rfl, W9, lab9, h9, hsm9, hp9, hB9, m9⟩ := hcut
          have mA : Mv (fun _ => False) wc lab9 (wc.alloc (.cells endRow 9)) (lab9.ext wc.heap.size 45) := Mv.alloc _ _ _ _
          obtain ⟨lab10, hlab10⟩ : ∃ x, x = lab9.ext wc.heap.size 45 := ⟨_, rfl⟩
          rw [← hlab10] at mA
          have hrl : lab10 wc.heap.size = 45 := by rw [hlab10]; exact Lab.ext_ge (Nat.le_refl _)
          have hA := Lib.hid (And.intro (h9.mv mA (fun _ _ h => h)) (And.intro (hp9.mv mA (fun h => h) (fun h => h)) (And.intro (hB9.mv mA (fun h => h)) (m9.trans mA (fun _ h => h.elim)))))
          have hpk := Wrote.pick W9 7
          have hplt := pick_lt W9 7 (by decide)
          have hbn : ∀ o, (wc.alloc o).heap.size = wc.heap.size + 1 := fun o => World.size_alloc _ _
          clear h9 hp9 hB9 m9 mA hlab10
          go_wp2_with fail
          refine (pick_c hA.out.1 7 (by decide) (by decide)).mono ?_
          rintro e w10 ⟨rfl, h10, m10⟩
          obtain ⟨a7, W10, hj7⟩ : ∃ a7 W10, W9.pick 7 = (a7, W10) := ⟨_, _, rfl⟩
          rw [hj7] at h10 hpk hplt ⊢
          simp only at h10 hpk hplt ⊢
          have hrow : w10.heap[wc.heap.size]? = some (.cells endRow 9 (0, 0)) := by
            rw [m10.block wc.heap.size (by rw [hbn]; omega) (by rw [hrl]; decide)]
            exact heap_alloc_new wc _
          have ct := h10.cText
          have ht10 : W10.text = W7.text := by rw [hpk.text, hsm9.text]; exact ByteArray.append_empty
          rw [ht10] at ct
          have hsp : 0 < (Kt ++ sepT q).size := by have := (sep_first q hq6).1; rw [ByteArray.size_append]; omega
          have htpos : 0 < W7.text.size := by omega
          obtain ⟨mz, hmz⟩ : ∃ mz, W7.text.size = mz + 1 := ⟨W7.text.size - 1, by omega⟩
          have hmlt : mz < W7.text.size := by omega
          obtain ⟨lb, hlb⟩ : ∃ lb, (W7.text[mz]'hmlt) = lb := ⟨_, rfl⟩
          have hidx : (mz : Int) < (W7.text.size : Int) := by omega
          have hB10 := hA.out.2.2.1.mv m10 (by decide)
          have b5 : w10.cell? ⟨w.heap.size, 5, none⟩ = some (.slice (some ⟨gk, 0, none⟩) 1 1) := hB10.cell 5
          have HD : Hid (∀ nq, WAt lab10 (w10.drewN nq) b W10) := Lib.hid fun nq => h10.mv ((Mv.refl (fun _ => False) w10 lab10).drewN nq) (fun _ _ h => h)
          have HPD : Hid (∀ nq, PlAt lab10 (w10.drewN nq) pc) := Lib.hid fun nq => (hA.out.2.1.mv m10 (by decide) (by decide)).mv ((Mv.refl (fun _ => False) w10 lab10).drewN nq) (fun h => h) (fun h => h)
          have HMD : Hid (∀ nq, Mv EM w lab (w10.drewN nq) lab10) := Lib.hid fun nq => (hA.out.2.2.2.trans m10 (fun _ h => .inl h)).drewN nq
          have hln10 : W10.line ≤ 3000 := by
            have h1 := hpk.line_le
            have h2 := hsm9.line
            have h3 : (⟨#[]⟩ : ByteArray).size = 0 := rfl
            omega
          have hEs : ∀ e, e < 7 → (endS e).size ≤ 8 := fun e he => by
            match e, he with
            | 0, _ => decide
            | 1, _ => decide
            | 2, _ => decide
            | 3, _ => decide
            | 4, _ => decide
            | 5, _ => decide
            | 6, _ => decide
          have htx : ∀ E, W7.text ++ E = W.text ++ (blankT kb ++ ((Kt ++ sepT q) ++ (V7 ++ E))) := fun E => by
            rw [HW7.out.text, HW6.out.text, HW3.out.text]
            simp only [ByteArray.append_assoc]
            rfl
          have HTX := Lib.hid htx
          have hlast : 0 < V7.size → byteAt V7 (V7.size - 1) = lb.toNat := fun hv => by
            rw [← hlb, byteAt_get, HW7.out.text]
            have := byteAt_app_right W6.text V7 (V7.size - 1)
            rw [← this, show W6.text.size + (V7.size - 1) = mz from by omega]
          have HLB := Lib.hid hlast
          have c00 : ∀ nq, (w10.drewN nq).cell? ⟨b, 0, none⟩ = some (.string W7.text) := fun _ => ct
          have hbnd : W7.text.size ≤ 3000 := by omega
          clear htx hlast h10 m10 hB10 hA hsp h8 hp8 hB8 hl8 m8 hsz3 hsz6 hsz7 hft htpos
          by_cases hl10 : lb.toNat = 10
          · have e10 : ((lb.toNat : Int) == 10) = true := beq_iff_eq.2 (by omega)
            go_wp2_with fail
            go_quiet (fail)
            -- the end is written
            have q7 : (w10.drewN nq).cell? ⟨wc.heap.size, 0, none⟩ = some (.string (endS 0)) := (blk_cell hrow 0).trans (end_get 0 (by decide))
            have hes : (endS 0).size ≤ 8 := hEs 0 (by decide)
            go_wp2_with fail
            refine (put_c (HD.out nq) (endS 0) (by omega) (by rw [ht10]; omega) (by omega)).mono ?_
            rintro e w12 ⟨rfl, h12, m12⟩
            have hF : Fin lab w b pc W j w12 := by
              refine ⟨W10.put (endS 0), blankT kb ++ ((Kt ++ sepT q) ++ (V7 ++ endS 0)), lab10, h12, ?_, ?_, (by have h1 := (Wrote.put W10 (endS 0)).line_le; omega), fun e => ?_, ?_, (HPD.out nq).mv m12 (by decide) (by decide), (HMD.out nq).trans m12 (fun _ h => .inl h)⟩
              · show W10.text ++ _ = _
                rw [ht10]
                exact HTX.out _
              · rw [ByteArray.size_append, ByteArray.size_append, show (V7 ++ endS 0).size = V7.size + (endS 0).size from ByteArray.size_append]
                omega
              · have b10 := hpk.bad ((Wrote.put W10 (endS 0)).bad e)
                have b7 : W7.bad = false := by rw [← hsm9.bad]; exact b10
                exact ⟨kb, Kt, q, V7, endS 0, rfl, (HBD6.out (HW7.out.bad b7)).1, hq6, HBD7.out b7, .inl ⟨0, by decide, rfl, fun _ => rfl⟩⟩
              · show W10.used = _
                rw [hpk.used, hsm9.used, HW7.out.used, HW6.out.used, HW3.out.used]
                rfl
            have HF := Lib.hid hF
            clear hF h12 m12
            go_wp2
            go_roundw
            case rel => exact .inr ⟨rfl, HF.out⟩
            case measure => simp [RowKit.intOf]
          · have e10 : ((lb.toNat : Int) == 10) = false := beq_eq_false_iff_ne.2 (by omega)
            by_cases ha6 : a7 = 6
            · have e6 : ((a7 : Int) == 6) = true := beq_iff_eq.2 (by omega)
              go_wp2_with fail
              go_quiet (fail)
              have b5' : (w10.drewN nq).cell? ⟨w.heap.size, 5, none⟩ = some (.slice (some ⟨gk, 0, none⟩) 1 1) := b5
              -- the end is written
              have q7 : (w10.drewN nq).cell? ⟨wc.heap.size, 5, none⟩ = some (.string (endS 5)) := (blk_cell hrow 5).trans (end_get 5 (by decide))
              have hes : (endS 5).size ≤ 8 := hEs 5 (by decide)
              go_wp2_with fail
              refine (put_c (HD.out nq) (endS 5) (by omega) (by rw [ht10]; omega) (by omega)).mono ?_
              rintro e w12 ⟨rfl, h12, m12⟩
              have hF : Fin lab w b pc W j w12 := by
                refine ⟨W10.put (endS 5), blankT kb ++ ((Kt ++ sepT q) ++ (V7 ++ endS 5)), lab10, h12, ?_, ?_, (by have h1 := (Wrote.put W10 (endS 5)).line_le; omega), fun e => ?_, ?_, (HPD.out nq).mv m12 (by decide) (by decide), (HMD.out nq).trans m12 (fun _ h => .inl h)⟩
                · show W10.text ++ _ = _
                  rw [ht10]
                  exact HTX.out _
                · rw [ByteArray.size_append, ByteArray.size_append, show (V7 ++ endS 5).size = V7.size + (endS 5).size from ByteArray.size_append]
                  omega
                · have b10 := hpk.bad ((Wrote.put W10 (endS 5)).bad e)
                  have b7 : W7.bad = false := by rw [← hsm9.bad]; exact b10
                  exact ⟨kb, Kt, q, V7, endS 5, rfl, (HBD6.out (HW7.out.bad b7)).1, hq6, HBD7.out b7, .inr rfl⟩
                · show W10.used = _
                  rw [hpk.used, hsm9.used, HW7.out.used, HW6.out.used, HW3.out.used]
                  rfl
              have HF := Lib.hid hF
              clear hF h12 m12
              go_wp2
              go_roundw
              case rel => exact .inr ⟨rfl, HF.out⟩
              case measure => simp [RowKit.intOf]
            · have e6 : ((a7 : Int) == 6) = false := beq_eq_false_iff_ne.2 (by omega)
              have ha7 : (a7 : Int) < 7 := by omega
              go_wp2_with fail
              go_quiet (fail)
              have b5' : (w10.drewN nq).cell? ⟨w.heap.size, 5, none⟩ = some (.slice (some ⟨gk, 0, none⟩) 1 1) := b5
              -- the end is written
              have q7 : (w10.drewN nq).cell? ⟨wc.heap.size, a7, none⟩ = some (.string (endS a7)) := (blk_cell hrow a7).trans (end_get a7 hplt)
              have hes : (endS a7).size ≤ 8 := hEs a7 hplt
              go_wp2_with fail
              refine (put_c (HD.out nq) (endS a7) (by omega) (by rw [ht10]; omega) (by omega)).mono ?_
              rintro e w12 ⟨rfl, h12, m12⟩
              have hF : Fin lab w b pc W j w12 := by
                refine ⟨W10.put (endS a7), blankT kb ++ ((Kt ++ sepT q) ++ (V7 ++ endS a7)), lab10, h12, ?_, ?_, (by have h1 := (Wrote.put W10 (endS a7)).line_le; omega), fun e => ?_, ?_, (HPD.out nq).mv m12 (by decide) (by decide), (HMD.out nq).trans m12 (fun _ h => .inl h)⟩
                · show W10.text ++ _ = _
                  rw [ht10]
                  exact HTX.out _
                · rw [ByteArray.size_append, ByteArray.size_append, show (V7 ++ endS a7).size = V7.size + (endS a7).size from ByteArray.size_append]
                  omega
                · have b10 := hpk.bad ((Wrote.put W10 (endS a7)).bad e)
                  have b7 : W7.bad = false := by rw [← hsm9.bad]; exact b10
                  exact ⟨kb, Kt, q, V7, endS a7, rfl, (HBD6.out (HW7.out.bad b7)).1, hq6, HBD7.out b7, (by
                  by_cases h5 : a7 = 5
                  · subst h5; exact .inr rfl
                  · refine .inl ⟨a7, by omega, ?_, fun h => absurd ((HLB.out (leaf_first (HBD7.out b7)).1).symm.trans h) hl10⟩
                    match a7, (show a7 < 5 by omega) with
                    | 0, _ => rfl
                    | 1, _ => rfl
                    | 2, _ => rfl
                    | 3, _ => rfl
                    | 4, _ => rfl)⟩
                · show W10.used = _
                  rw [hpk.used, hsm9.used, HW7.out.used, HW6.out.used, HW3.out.used]
                  rfl
              have HF := Lib.hid hF
              clear hF h12 m12
              go_wp2
              go_roundw
              case rel => exact .inr ⟨rfl, HF.out⟩
              case measure => simp [RowKit.intOf]
    · have HF := Lib.hid hfin
      clear hfin
      go_wp2
      go_end0
      exact ⟨rfl, HF.out⟩
end
end Go.Cf
