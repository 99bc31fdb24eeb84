/-
  The lexer's states, path by path: the top, and keys.
-/
import Derived.Test.YtackodbeohaidaaGreatDoorJ
namespace Go.Cf
open Go.RowKit Go.Conc Go.Proofs
abbrev skipT (n : Nat) : Tag := some (true, n)
abbrev plainT (n : Nat) : Tag := some (false, n)
section
variable {L : LX}
theorem top_sp (ok : L.Ok) (hs : isSp L.chr = true) : Goes1 60 L L.nxt (skipT 60) := by
  intro base S0 w0 w b h0
  go_enter Tryz.func60, Tryz.ntmps60
  go_wp2_with fail
  refine (next_c h0 ok).mono ?_
  rintro e w1 ⟨rfl, h1⟩
  go_wp2_with fail
  refine (isSp_c _ (chr_lt ok) _).mono ?_
  rintro e w' ⟨rfl, rfl⟩
  go_wp2_with fail
  refine (skipV_c h1 60).mono ?_
  rintro e w2 ⟨rfl, hv⟩
  go_wp2_with fail
  go_ret
  exact ⟨_, rfl, hv⟩
theorem top_brace (ok : L.Ok) (hst : L.stack.length ≤ 1000000) (hs : isSp L.chr = false) (hc : L.chr = 123) : Goes1 60 L (L.nxt.psh 60) (skipT 89) := by
  have e_123_125 : (((L.chr : Nat) : Int) == 123) = true := beq_iff_eq.2 (by omega)
  clear hc
  intro base S0 w0 w b h0
  go_enter Tryz.func60, Tryz.ntmps60
  go_wp2_with fail
  refine (next_c h0 ok).mono ?_
  rintro e w1 ⟨rfl, h1⟩
  go_wp2_with fail
  refine (isSp_c _ (chr_lt ok) _).mono ?_
  rintro e w' ⟨rfl, rfl⟩
  go_wp2_with fail
  refine (push_c h1 60 (by rw [nxt_stack]; exact hst)).mono ?_
  rintro e w2 ⟨rfl, h2⟩
  go_wp2_with fail
  refine (skipV_c h2 89).mono ?_
  rintro e w3 ⟨rfl, hv⟩
  go_wp2_with fail
  go_ret
  exact ⟨_, rfl, hv⟩
theorem top_hash (ok : L.Ok) (hst : L.stack.length ≤ 1000000) (hs : isSp L.chr = false) (hc : L.chr = 35) : Goes1 60 L (L.nxt.psh 60) (plainT 90) := by
  have e_123_125 : (((L.chr : Nat) : Int) == 123) = false := beq_eq_false_iff_ne.2 (by omega)
  have e_35_125 : (((L.chr : Nat) : Int) == 35) = true := beq_iff_eq.2 (by omega)
  clear hc
  intro base S0 w0 w b h0
  go_enter Tryz.func60, Tryz.ntmps60
  go_wp2_with fail
  refine (next_c h0 ok).mono ?_
  rintro e w1 ⟨rfl, h1⟩
  go_wp2_with fail
  refine (isSp_c _ (chr_lt ok) _).mono ?_
  rintro e w' ⟨rfl, rfl⟩
  go_wp2_with fail
  refine (push_c h1 60 (by rw [nxt_stack]; exact hst)).mono ?_
  rintro e w2 ⟨rfl, h2⟩
  go_wp2_with fail
  go_ret
  exact ⟨_, rfl, h2.plain _⟩
theorem top_slash (ok : L.Ok) (hst : L.stack.length ≤ 1000000) (hs : isSp L.chr = false) (hc : L.chr = 47) (hd : L.nxt.chr = 47) : Goes1 60 L (L.nxt.nxt.psh 60) (plainT 90) := by
  have e_123_125 : (((L.chr : Nat) : Int) == 123) = false := beq_eq_false_iff_ne.2 (by omega)
  have e_35_125 : (((L.chr : Nat) : Int) == 35) = false := beq_eq_false_iff_ne.2 (by omega)
  have e_47_125 : (((L.chr : Nat) : Int) == 47) = true := beq_iff_eq.2 (by omega)
  have e_47_829 : (((L.nxt.chr : Nat) : Int) == 47) = true := beq_iff_eq.2 (by omega)
  clear hc hd
  intro base S0 w0 w b h0
  go_enter Tryz.func60, Tryz.ntmps60
  go_wp2_with fail
  refine (next_c h0 ok).mono ?_
  rintro e w1 ⟨rfl, h1⟩
  go_wp2_with fail
  refine (isSp_c _ (chr_lt ok) _).mono ?_
  rintro e w' ⟨rfl, rfl⟩
  go_wp2_with fail
  refine (next_c h1 ok.nxt).mono ?_
  rintro e w2 ⟨rfl, h2⟩
  go_wp2_with fail
  refine (push_c h2 60 (by rw [nxt_stack, nxt_stack]; exact hst)).mono ?_
  rintro e w3 ⟨rfl, h3⟩
  go_wp2_with fail
  go_ret
  exact ⟨_, rfl, h3.plain _⟩
theorem top_key (ok : L.Ok) (hst : L.stack.length ≤ 1000000) (hs : isSp L.chr = false) (h1 : L.chr ≠ 123) (h2 : L.chr ≠ 35) (h3 : L.chr ≠ 47) (h4 : L.chr ≠ 0) : Goes1 60 L (L.pk.psh 94) (plainT 95) := by
  have e_123_125 : (((L.chr : Nat) : Int) == 123) = false := beq_eq_false_iff_ne.2 (by omega)
  have e_35_125 : (((L.chr : Nat) : Int) == 35) = false := beq_eq_false_iff_ne.2 (by omega)
  have e_47_125 : (((L.chr : Nat) : Int) == 47) = false := beq_eq_false_iff_ne.2 (by omega)
  have e_0_125 : (((L.chr : Nat) : Int) == 0) = false := beq_eq_false_iff_ne.2 (by omega)
  clear h1 h2 h3 h4
  intro base S0 w0 w b h0
  go_enter Tryz.func60, Tryz.ntmps60
  go_wp2_with fail
  refine (next_c h0 ok).mono ?_
  rintro e w1 ⟨rfl, h1⟩
  go_wp2_with fail
  refine (isSp_c _ (chr_lt ok) _).mono ?_
  rintro e w' ⟨rfl, rfl⟩
  go_wp2_with fail
  refine (back_c h1 ok.nxt (nxt_width _)).mono ?_
  rintro e w2 ⟨rfl, h2⟩
  rw [nxt_back] at h2
  go_wp2_with fail
  refine (push_c h2 94 (by rw [pk_stack]; exact hst)).mono ?_
  rintro e w3 ⟨rfl, h3⟩
  go_wp2_with fail
  go_ret
  exact ⟨_, rfl, h3.plain _⟩
theorem tve_hash (ok : L.Ok) (hst : L.stack.length ≤ 1000000) (hc : L.chr = 35) : Goes1 94 L (L.nxt.psh 60) (plainT 90) := by
  have e_35_125 : (((L.chr : Nat) : Int) == 35) = true := beq_iff_eq.2 (by omega)
  clear hc
  intro base S0 w0 w b h0
  go_enter Tryz.func94, Tryz.ntmps94
  go_wp2_with fail
  refine (next_c h0 ok).mono ?_
  rintro e w1 ⟨rfl, h1⟩
  go_wp2_with fail
  refine (push_c h1 60 (by rw [nxt_stack]; exact hst)).mono ?_
  rintro e w2 ⟨rfl, h2⟩
  go_wp2_with fail
  go_ret
  exact ⟨_, rfl, h2.plain _⟩
theorem tve_slash (ok : L.Ok) (hst : L.stack.length ≤ 1000000) (hc : L.chr = 47) (hd : L.nxt.chr = 47) : Goes1 94 L (L.nxt.nxt.psh 60) (plainT 90) := by
  have e_35_125 : (((L.chr : Nat) : Int) == 35) = false := beq_eq_false_iff_ne.2 (by omega)
  have e_47_125 : (((L.chr : Nat) : Int) == 47) = true := beq_iff_eq.2 (by omega)
  have e_47_829 : (((L.nxt.chr : Nat) : Int) == 47) = true := beq_iff_eq.2 (by omega)
  clear hc hd
  intro base S0 w0 w b h0
  go_enter Tryz.func94, Tryz.ntmps94
  go_wp2_with fail
  refine (next_c h0 ok).mono ?_
  rintro e w1 ⟨rfl, h1⟩
  go_wp2_with fail
  refine (next_c h1 ok.nxt).mono ?_
  rintro e w2 ⟨rfl, h2⟩
  go_wp2_with fail
  refine (push_c h2 60 (by rw [nxt_stack, nxt_stack]; exact hst)).mono ?_
  rintro e w3 ⟨rfl, h3⟩
  go_wp2_with fail
  go_ret
  exact ⟨_, rfl, h3.plain _⟩
theorem tve_ws (ok : L.Ok) (h1 : L.chr ≠ 35) (h2 : L.chr ≠ 47) (hw : isWS L.chr = true) : Goes1 94 L L.nxt (plainT 94) := by
  have e_35_125 : (((L.chr : Nat) : Int) == 35) = false := beq_eq_false_iff_ne.2 (by omega)
  have e_47_125 : (((L.chr : Nat) : Int) == 47) = false := beq_eq_false_iff_ne.2 (by omega)
  clear h1 h2
  intro base S0 w0 w b h0
  go_enter Tryz.func94, Tryz.ntmps94
  go_wp2_with fail
  refine (next_c h0 ok).mono ?_
  rintro e w1 ⟨rfl, h1⟩
  go_wp2_with fail
  refine (isWS_c _ (chr_lt ok) _).mono ?_
  rintro e w' ⟨rfl, rfl⟩
  go_wp2_with fail
  go_ret
  exact ⟨_, rfl, h1.plain _⟩
end
end Go.Cf
