/-
  The lexer's steps, by plain data.
-/
import Derived.Test.YtackodbeohaidaaGreatDoorVw
namespace Go.Cf
open Go.RowKit Go.Conc Go.Proofs
section
variable {s : ByteArray} {p st : Nat} {stk : List Nat} {L : LX}
theorem LX.Is0.emitted0 (h : L.Is0 s p st stk) (ty : Nat) (t : Tag) : ((((L.emit ty L.txt)).goes t).took []).Is s p p stk t ∧ (((L.emit ty L.txt)).goes t).q = [⟨ty, s.extract st p, 1 + (nlc s p : Nat), (L.pos : Int) - L.ilstart - L.txt.size⟩] := by
  have := h.emitted ty L.stack t
  rw [h.stack] at this
  have k := h.ok.emit ty L.txt
  refine ⟨⟨⟨⟨k.small, k.pos, k.start, k.width, k.lstart, k.ilstart, k.line, k.asc⟩, h.inp, h.pos, h.pos, h.stack, h.parts, rfl⟩, rfl⟩, this.2⟩
theorem ld_skip (f : Nat) : Leads s p st stk (skipT f) p p stk (plainT f) := by
  rintro L ⟨h, hs⟩
  exact ⟨1, _, run_skip hs h.q, h.ign.goes _⟩
theorem enters60 : Enters 60 := fun args w => by kernel_rfl
theorem ld_top_sp (hp : p < s.size) (e : isSp (byteAt s p) = true) : Leads s p st stk (plainT 60) (p + 1) st stk (skipT 60) := by
  rintro L ⟨h, hs⟩
  have hc := h.chr hp
  exact ⟨1, _, run1 hs enters60 h.q (top_sp h.ok (by rw [hc]; exact e)), (h.nxt hp).goes _⟩
theorem ld_top_key (hp : p < s.size) (hl : stk.length ≤ 1000000) (e : isSp (byteAt s p) = false) (e1 : byteAt s p ≠ 123) (e2 : byteAt s p ≠ 35) (e3 : byteAt s p ≠ 47) (e4 : byteAt s p ≠ 0) : Leads s p st stk (plainT 60) p st (stk ++ [94]) (plainT 95) := by
  rintro L ⟨h, hs⟩
  have hc := h.chr hp
  exact ⟨1, _, run1 hs enters60 h.q (top_key h.ok (by rw [h.stack]; exact hl) (by rw [hc]; exact e) (by rw [hc]; exact e1) (by rw [hc]; exact e2) (by rw [hc]; exact e3) (by rw [hc]; exact e4)), (h.pk.psh 94).goes _⟩
theorem ld_top_eof (hp : s.size ≤ p) (hst : st = p)  : Emits s p st stk (plainT 60) 2 (s.extract st p) (1 + (nlc s p : Nat)) p p stk (none) := by
  rintro L ⟨h, hs⟩
  have hc := h.chrEnd hp
  obtain ⟨h1, h2⟩ := (h.nxtEnd hp).emitted0 2 (none)
  exact ⟨1, _, _, run1 hs enters60 h.q (top_eof h.ok (h.rdy (Nat.le_of_eq hst)) hc (by rw [(h.nxtEnd hp).start, (h.nxtEnd hp).pos]; omega)), h2, rfl, rfl, rfl, h1⟩
theorem enters94 : Enters 94 := fun args w => by kernel_rfl
theorem ld_tve_nl (hp : p < s.size) (e : byteAt s p = 10) : Leads s p st stk (plainT 94) (p + 1) (p + 1) stk (plainT 60) := by
  rintro L ⟨h, hs⟩
  have hc := h.chr hp
  exact ⟨1, _, run1 hs enters94 h.q (tve_nl h.ok (by rw [hc]; exact e)), ((h.nxt hp).ign).goes _⟩
theorem ld_tve_ws (hp : p < s.size) (e : isWS (byteAt s p) = true) (e1 : byteAt s p ≠ 35) (e2 : byteAt s p ≠ 47) : Leads s p st stk (plainT 94) (p + 1) st stk (plainT 94) := by
  rintro L ⟨h, hs⟩
  have hc := h.chr hp
  exact ⟨1, _, run1 hs enters94 h.q (tve_ws h.ok (by rw [hc]; exact e1) (by rw [hc]; exact e2) (by rw [hc]; exact e)), (h.nxt hp).goes _⟩
theorem enters95 : Enters 95 := fun args w => by kernel_rfl
theorem ld_ks_key (hp : p < s.size) (e1 : isSep (byteAt s p) = false) (e2 : isSp (byteAt s p) = false) (e3 : byteAt s p ≠ 34) (e4 : byteAt s p ≠ 39) : Leads s p st stk (plainT 95) (p + 1) p stk (plainT 139) := by
  rintro L ⟨h, hs⟩
  have hc := h.chr hp
  exact ⟨1, _, run1 hs enters95 h.q (ks_key h.ok (by rw [hc]; exact e1) (by rw [hc]; exact e2) (by rw [hc]; exact e3) (by rw [hc]; exact e4)), ((h.pk.ign).nxt hp).goes _⟩
theorem enters139 : Enters 139 := fun args w => by kernel_rfl
theorem ld_key_more (hp : p < s.size) (e1 : isSp (byteAt s p) = false) (e2 : isSep (byteAt s p) = false) (e3 : byteAt s p ≠ 0) : Leads s p st stk (plainT 139) (p + 1) st stk (plainT 139) := by
  rintro L ⟨h, hs⟩
  have hc := h.chr hp
  exact ⟨1, _, run1 hs enters139 h.q (key_more h.ok (by rw [hc]; exact e1) (by rw [hc]; exact e2) (by rw [hc]; exact e3)), ((h.pk).nxt hp).goes _⟩
theorem ld_key_sp (hp : p < s.size) (hst : st ≤ p) (e1 : isSp (byteAt s p) = true) (hk : noKw (s.extract st p)) : Emits s p st stk (plainT 139) 3 (s.extract st p) (1 + (nlc s p : Nat)) p p stk (plainT 163) := by
  rintro L ⟨h, hs⟩
  have hc := h.chr hp
  obtain ⟨h1, h2⟩ := (h.pk).emitted0 3 (plainT 163)
  exact ⟨1, _, _, run1 hs enters139 h.q (key_sp h.ok (h.rdy hst) (by rw [hc]; exact e1) (by rw [h.pk.txt]; exact hk)), h2, rfl, rfl, rfl, h1⟩
theorem ld_key_sep (hp : p < s.size) (hst : st ≤ p) (e1 : isSp (byteAt s p) = false) (e2 : isSep (byteAt s p) = true) : Emits s p st stk (plainT 139) 3 (s.extract st p) (1 + (nlc s p : Nat)) p p stk (plainT 163) := by
  rintro L ⟨h, hs⟩
  have hc := h.chr hp
  obtain ⟨h1, h2⟩ := (h.pk).emitted0 3 (plainT 163)
  exact ⟨1, _, _, run1 hs enters139 h.q (key_sep h.ok (h.rdy hst) (by rw [hc]; exact e1) (by rw [hc]; exact e2)), h2, rfl, rfl, rfl, h1⟩
theorem ld_key_eof (hp : s.size ≤ p) (hst : st ≤ p) : Emits s p st stk (plainT 139) 3 (s.extract st p) (1 + (nlc s p : Nat)) p p stk (plainT 163) := by
  rintro L ⟨h, hs⟩
  have hc := h.chrEnd hp
  obtain ⟨h1, h2⟩ := (h.pk).emitted0 3 (plainT 163)
  exact ⟨1, _, _, run1 hs enters139 h.q (key_eof h.ok (h.rdy hst) hc), h2, rfl, rfl, rfl, h1⟩
theorem enters163 : Enters 163 := fun args w => by kernel_rfl
theorem ld_ke_sp (hp : p < s.size) (e1 : isSp (byteAt s p) = true) : Leads s p st stk (plainT 163) (p + 1) st stk (skipT 163) := by
  rintro L ⟨h, hs⟩
  have hc := h.chr hp
  exact ⟨1, _, run1 hs enters163 h.q (ke_sp h.ok (by rw [hc]; exact e1)), (h.nxt hp).goes _⟩
theorem ld_ke_sep (hp : p < s.size) (e1 : isSp (byteAt s p) = false) (e2 : isSep (byteAt s p) = true) : Leads s p st stk (plainT 163) (p + 1) st stk (skipT 174) := by
  rintro L ⟨h, hs⟩
  have hc := h.chr hp
  exact ⟨1, _, run1 hs enters163 h.q (ke_sep h.ok (by rw [hc]; exact e1) (by rw [hc]; exact e2)), (h.nxt hp).goes _⟩
theorem ld_ke_eof (hp : s.size ≤ p) (hst : st ≤ p) : Emits s p st stk (plainT 163) 2 (s.extract st p) (1 + (nlc s p : Nat)) p p stk (none) := by
  rintro L ⟨h, hs⟩
  have hc := h.chrEnd hp
  obtain ⟨h1, h2⟩ := (h.nxtEnd hp).emitted0 2 (none)
  exact ⟨1, _, _, run1 hs enters163 h.q (ke_eof h.ok (h.rdy hst) hc), h2, rfl, rfl, rfl, h1⟩
theorem ld_ke_other (hp : p < s.size) (e1 : isSp (byteAt s p) = false) (e2 : isSep (byteAt s p) = false) (e3 : byteAt s p ≠ 0) : Leads s p st stk (plainT 163) p st stk (plainT 174) := by
  rintro L ⟨h, hs⟩
  have hc := h.chr hp
  exact ⟨1, _, run1 hs enters163 h.q (ke_other h.ok (by rw [hc]; exact e1) (by rw [hc]; exact e2) (by rw [hc]; exact e3)), (h.pk).goes _⟩
theorem enters174 : Enters 174 := fun args w => by kernel_rfl
theorem ld_val_ws (hp : p < s.size) (e1 : isWS (byteAt s p) = true) : Leads s p st stk (plainT 174) (p + 1) st stk (skipT 174) := by
  rintro L ⟨h, hs⟩
  have hc := h.chr hp
  exact ⟨1, _, run1 hs enters174 h.q (val_ws h.ok (by rw [hc]; exact e1)), (h.nxt hp).goes _⟩
theorem ld_val_dig (hp : p < s.size) (e1 : isWS (byteAt s p) = false) (e2 : isDig (byteAt s p) = true) (e3 : 48 ≤ byteAt s p ∧ byteAt s p ≤ 57) : Leads s p st stk (plainT 174) p st stk (plainT 186) := by
  rintro L ⟨h, hs⟩
  have hc := h.chr hp
  exact ⟨1, _, run1 hs enters174 h.q (val_dig h.ok (by rw [hc]; exact e1) (by rw [hc]; exact e2) (by rw [hc]; exact e3)), (h.pk).goes _⟩
theorem enters186 : Enters 186 := fun args w => by kernel_rfl
theorem ld_num_start (hp : p < s.size) (e2 : isDig (byteAt s p) = true) : Leads s p st stk (plainT 186) (p + 1) st stk (plainT 199) := by
  rintro L ⟨h, hs⟩
  have hc := h.chr hp
  exact ⟨1, _, run1 hs enters186 h.q (num_start h.ok (by rw [hc]; exact e2)), (h.nxt hp).goes _⟩
theorem enters199 : Enters 199 := fun args w => by kernel_rfl
theorem ld_num_dig (hp : p < s.size) (e2 : isDig (byteAt s p) = true) (e3 : byteAt s p ≠ 45) : Leads s p st stk (plainT 199) (p + 1) st stk (plainT 199) := by
  rintro L ⟨h, hs⟩
  have hc := h.chr hp
  exact ⟨1, _, run1 hs enters199 h.q (num_dig h.ok (by rw [hc]; exact e2) (by rw [hc]; exact e3)), (h.nxt hp).goes _⟩
theorem ld_num_suf (hp : p < s.size) (e2 : isDig (byteAt s p) = false) (e3 : isSuf (byteAt s p) = true) (e4 : byteAt s p ≠ 45) (e5 : byteAt s p ≠ 46) : Leads s p st stk (plainT 199) (p + 1) st stk (plainT 212) := by
  rintro L ⟨h, hs⟩
  have hc := h.chr hp
  exact ⟨1, _, run1 hs enters199 h.q (num_suf h.ok (by rw [hc]; exact e2) (by rw [hc]; exact e3) (by rw [hc]; exact e4) (by rw [hc]; exact e5)), (h.nxt hp).goes _⟩
theorem ld_num_nl (hp : p < s.size) (hsp : st ≤ p) (e : byteAt s p = 10) (sk : List Nat) (n : Nat) (hk : stk = sk ++ [n]) (hl : sk.length ≤ 1000000) : Emits s p st stk (plainT 199) 7 (s.extract st p) (1 + (nlc s p : Nat)) p p sk (plainT n) := by
  rintro L ⟨h, hs⟩
  have hc := h.chr hp
  have hst := h.stack.trans hk
  obtain ⟨h1, h2⟩ := (h.pk).emitted 7 sk (plainT n)
  exact ⟨1, _, _, run1 hs enters199 h.q (num_nl h.ok (h.rdy hsp) sk n hst hl (by rw [hc]; exact e)), h2, rfl, rfl, rfl, h1⟩
theorem enters212 : Enters 212 := fun args w => by kernel_rfl
theorem ld_suf_b (hp : p < s.size) (e : byteAt s p = 98) : Leads s p st stk (plainT 212) (p + 1) st stk (plainT 212) := by
  rintro L ⟨h, hs⟩
  have hc := h.chr hp
  exact ⟨1, _, run1 hs enters212 h.q (suf_b h.ok (by rw [hc]; exact e)), (h.nxt hp).goes _⟩
theorem ld_suf_B (hp : p < s.size) (e : byteAt s p = 66) : Leads s p st stk (plainT 212) (p + 1) st stk (plainT 212) := by
  rintro L ⟨h, hs⟩
  have hc := h.chr hp
  exact ⟨1, _, run1 hs enters212 h.q (suf_B h.ok (by rw [hc]; exact e)), (h.nxt hp).goes _⟩
theorem ld_suf_i (hp : p < s.size) (e : byteAt s p = 105) : Leads s p st stk (plainT 212) (p + 1) st stk (plainT 212) := by
  rintro L ⟨h, hs⟩
  have hc := h.chr hp
  exact ⟨1, _, run1 hs enters212 h.q (suf_i h.ok (by rw [hc]; exact e)), (h.nxt hp).goes _⟩
theorem ld_suf_nl (hp : p < s.size) (hsp : st ≤ p) (e : byteAt s p = 10) (sk : List Nat) (n : Nat) (hk : stk = sk ++ [n]) (hl : sk.length ≤ 1000000) : Emits s p st stk (plainT 212) 7 (s.extract st p) (1 + (nlc s p : Nat)) p p sk (plainT n) := by
  rintro L ⟨h, hs⟩
  have hc := h.chr hp
  have hst := h.stack.trans hk
  obtain ⟨h1, h2⟩ := (h.pk).emitted 7 sk (plainT n)
  exact ⟨1, _, _, run1 hs enters212 h.q (suf_nl h.ok (h.rdy hsp) sk n hst hl (by rw [hc]; exact e)), h2, rfl, rfl, rfl, h1⟩
end
end Go.Cf
