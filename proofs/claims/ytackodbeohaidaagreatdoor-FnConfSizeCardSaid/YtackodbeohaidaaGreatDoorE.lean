/-
  The lexer's small functions, continued.
-/
import Derived.Test.YtackodbeohaidaaGreatDoorD
namespace Go.Cf
open Go.RowKit Go.Conc Go.Proofs
def isWS (c : Nat) : Bool := c == 9 || c == 32
def isNLb (c : Nat) : Bool := c == 10 || c == 13
def isSep (c : Nat) : Bool := c == 61 || c == 58
def isSp (c : Nat) : Bool := c == 9 || c == 10 || c == 11 || c == 12 || c == 13 || c == 32
def isDig (c : Nat) : Bool := decide (48 ≤ c) && decide (c ≤ 57)
def isSuf (c : Nat) : Bool := c == 107 || c == 75 || c == 109 || c == 77 || c == 103 || c == 71 || c == 116 || c == 84 || c == 112 || c == 80 || c == 101 || c == 69
set_option maxHeartbeats 1000000
theorem isWS_c (c : Nat) (hc : c < 128) (w : World) : Calls Tryz.prog 133 #[.int .i32 c] w fun e w' => e = .returned (.bool (isWS c)) ∧ w' = w := by
  by_cases h9 : c = 9
  · subst h9
    clear hc
    go_enter Tryz.func133, Tryz.ntmps133
    go_wp2
    go_ret
    exact ⟨rfl, rfl⟩
  have e9 : ((c : Int) == 9) = false := by simp; omega
  by_cases h32 : c = 32
  · subst h32
    clear hc
    go_enter Tryz.func133, Tryz.ntmps133
    go_wp2
    go_ret
    exact ⟨rfl, rfl⟩
  have e32 : ((c : Int) == 32) = false := by simp; omega
  have hv : isWS c = false := by simp [isWS, h9, h32]
  rw [hv]
  clear h9
  clear h32
  clear hc hv
  go_enter Tryz.func133, Tryz.ntmps133
  go_wp2
  go_ret
  exact ⟨rfl, rfl⟩
theorem isNLb_c (c : Nat) (hc : c < 128) (w : World) : Calls Tryz.prog 134 #[.int .i32 c] w fun e w' => e = .returned (.bool (isNLb c)) ∧ w' = w := by
  by_cases h10 : c = 10
  · subst h10
    clear hc
    go_enter Tryz.func134, Tryz.ntmps134
    go_wp2
    go_ret
    exact ⟨rfl, rfl⟩
  have e10 : ((c : Int) == 10) = false := by simp; omega
  by_cases h13 : c = 13
  · subst h13
    clear hc
    go_enter Tryz.func134, Tryz.ntmps134
    go_wp2
    go_ret
    exact ⟨rfl, rfl⟩
  have e13 : ((c : Int) == 13) = false := by simp; omega
  have hv : isNLb c = false := by simp [isNLb, h10, h13]
  rw [hv]
  clear h10
  clear h13
  clear hc hv
  go_enter Tryz.func134, Tryz.ntmps134
  go_wp2
  go_ret
  exact ⟨rfl, rfl⟩
theorem isSep_c (c : Nat) (hc : c < 128) (w : World) : Calls Tryz.prog 136 #[.int .i32 c] w fun e w' => e = .returned (.bool (isSep c)) ∧ w' = w := by
  by_cases h61 : c = 61
  · subst h61
    clear hc
    go_enter Tryz.func136, Tryz.ntmps136
    go_wp2
    go_ret
    exact ⟨rfl, rfl⟩
  have e61 : ((c : Int) == 61) = false := by simp; omega
  by_cases h58 : c = 58
  · subst h58
    clear hc
    go_enter Tryz.func136, Tryz.ntmps136
    go_wp2
    go_ret
    exact ⟨rfl, rfl⟩
  have e58 : ((c : Int) == 58) = false := by simp; omega
  have hv : isSep c = false := by simp [isSep, h61, h58]
  rw [hv]
  clear h61
  clear h58
  clear hc hv
  go_enter Tryz.func136, Tryz.ntmps136
  go_wp2
  go_ret
  exact ⟨rfl, rfl⟩
theorem isSuf_c (c : Nat) (hc : c < 128) (w : World) : Calls Tryz.prog 211 #[.int .i32 c] w fun e w' => e = .returned (.bool (isSuf c)) ∧ w' = w := by
  by_cases h107 : c = 107
  · subst h107
    clear hc
    go_enter Tryz.func211, Tryz.ntmps211
    go_wp2
    go_ret
    exact ⟨rfl, rfl⟩
  have e107 : ((c : Int) == 107) = false := by simp; omega
  by_cases h75 : c = 75
  · subst h75
    clear hc
    go_enter Tryz.func211, Tryz.ntmps211
    go_wp2
    go_ret
    exact ⟨rfl, rfl⟩
  have e75 : ((c : Int) == 75) = false := by simp; omega
  by_cases h109 : c = 109
  · subst h109
    clear hc
    go_enter Tryz.func211, Tryz.ntmps211
    go_wp2
    go_ret
    exact ⟨rfl, rfl⟩
  have e109 : ((c : Int) == 109) = false := by simp; omega
  by_cases h77 : c = 77
  · subst h77
    clear hc
    go_enter Tryz.func211, Tryz.ntmps211
    go_wp2
    go_ret
    exact ⟨rfl, rfl⟩
  have e77 : ((c : Int) == 77) = false := by simp; omega
  by_cases h103 : c = 103
  · subst h103
    clear hc
    go_enter Tryz.func211, Tryz.ntmps211
    go_wp2
    go_ret
    exact ⟨rfl, rfl⟩
  have e103 : ((c : Int) == 103) = false := by simp; omega
  by_cases h71 : c = 71
  · subst h71
    clear hc
    go_enter Tryz.func211, Tryz.ntmps211
    go_wp2
    go_ret
    exact ⟨rfl, rfl⟩
  have e71 : ((c : Int) == 71) = false := by simp; omega
  by_cases h116 : c = 116
  · subst h116
    clear hc
    go_enter Tryz.func211, Tryz.ntmps211
    go_wp2
    go_ret
    exact ⟨rfl, rfl⟩
  have e116 : ((c : Int) == 116) = false := by simp; omega
  by_cases h84 : c = 84
  · subst h84
    clear hc
    go_enter Tryz.func211, Tryz.ntmps211
    go_wp2
    go_ret
    exact ⟨rfl, rfl⟩
  have e84 : ((c : Int) == 84) = false := by simp; omega
  by_cases h112 : c = 112
  · subst h112
    clear hc
    go_enter Tryz.func211, Tryz.ntmps211
    go_wp2
    go_ret
    exact ⟨rfl, rfl⟩
  have e112 : ((c : Int) == 112) = false := by simp; omega
  by_cases h80 : c = 80
  · subst h80
    clear hc
    go_enter Tryz.func211, Tryz.ntmps211
    go_wp2
    go_ret
    exact ⟨rfl, rfl⟩
  have e80 : ((c : Int) == 80) = false := by simp; omega
  by_cases h101 : c = 101
  · subst h101
    clear hc
    go_enter Tryz.func211, Tryz.ntmps211
    go_wp2
    go_ret
    exact ⟨rfl, rfl⟩
  have e101 : ((c : Int) == 101) = false := by simp; omega
  by_cases h69 : c = 69
  · subst h69
    clear hc
    go_enter Tryz.func211, Tryz.ntmps211
    go_wp2
    go_ret
    exact ⟨rfl, rfl⟩
  have e69 : ((c : Int) == 69) = false := by simp; omega
  have hv : isSuf c = false := by simp [isSuf, h107, h75, h109, h77, h103, h71, h116, h84, h112, h80, h101, h69]
  rw [hv]
  clear h107
  clear h75
  clear h109
  clear h77
  clear h103
  clear h71
  clear h116
  clear h84
  clear h112
  clear h80
  clear h101
  clear h69
  clear hc hv
  go_enter Tryz.func211, Tryz.ntmps211
  go_wp2
  go_ret
  exact ⟨rfl, rfl⟩
theorem isSp_c (c : Nat) (hc : c < 128) (w : World) : Calls Tryz.prog 86 #[.int .i32 c] w fun e w' => e = .returned (.bool (isSp c)) ∧ w' = w := by
  by_cases h9 : c = 9
  · subst h9
    clear hc
    go_enter Tryz.func86, Tryz.ntmps86
    go_wp2
    go_ret
    exact ⟨rfl, rfl⟩
  have e9 : ((c : Int) == 9) = false := by simp; omega
  by_cases h10 : c = 10
  · subst h10
    clear hc
    go_enter Tryz.func86, Tryz.ntmps86
    go_wp2
    go_ret
    exact ⟨rfl, rfl⟩
  have e10 : ((c : Int) == 10) = false := by simp; omega
  by_cases h11 : c = 11
  · subst h11
    clear hc
    go_enter Tryz.func86, Tryz.ntmps86
    go_wp2
    go_ret
    exact ⟨rfl, rfl⟩
  have e11 : ((c : Int) == 11) = false := by simp; omega
  by_cases h12 : c = 12
  · subst h12
    clear hc
    go_enter Tryz.func86, Tryz.ntmps86
    go_wp2
    go_ret
    exact ⟨rfl, rfl⟩
  have e12 : ((c : Int) == 12) = false := by simp; omega
  by_cases h13 : c = 13
  · subst h13
    clear hc
    go_enter Tryz.func86, Tryz.ntmps86
    go_wp2
    go_ret
    exact ⟨rfl, rfl⟩
  have e13 : ((c : Int) == 13) = false := by simp; omega
  by_cases h32 : c = 32
  · subst h32
    clear hc
    go_enter Tryz.func86, Tryz.ntmps86
    go_wp2
    go_ret
    exact ⟨rfl, rfl⟩
  have e32 : ((c : Int) == 32) = false := by simp; omega
  have hv : isSp c = false := by simp [isSp, h9, h10, h11, h12, h13, h32]
  rw [hv]
  clear h9
  clear h10
  clear h11
  clear h12
  clear h13
  clear h32
  have e133 : ((c : Int) == 133) = false := by simp; omega
  have e160 : ((c : Int) == 160) = false := by simp; omega
  have hc' : (c : Int) ≤ 255 := by omega
  have hcw : IntKind.u32.wrap (c : Int) = c := by show IntKind.wrap .u32 (c : Int) = c; simp [IntKind.wrap, IntKind.bits, IntKind.signed]; omega
  clear hc hv
  go_enter Tryz.func86, Tryz.ntmps86
  go_wp2
  go_ret
  exact ⟨rfl, rfl⟩
theorem isDig_c (c : Nat) (hc : c < 128) (w : World) : Calls Tryz.prog 67 #[.int .i32 c] w fun e w' => e = .returned (.bool (isDig c)) ∧ w' = w := by
  have hc' : (c : Int) ≤ 255 := by omega
  by_cases h48 : 48 ≤ c
  · have g48 : decide ((48 : Int) ≤ (c : Int)) = true := by simp; omega
    by_cases h57 : c ≤ 57
    · have g57 : decide ((c : Int) ≤ 57) = true := by simp; omega
      have hv : isDig c = true := by simp [isDig, h48, h57]
      rw [hv]
      clear hv
      go_enter Tryz.func67, Tryz.ntmps67
      go_wp2
      go_ret
      exact ⟨rfl, rfl⟩
    · have g57 : decide ((c : Int) ≤ 57) = false := by simp; omega
      have hv : isDig c = false := by simp [isDig, h57]
      rw [hv]
      clear hv
      go_enter Tryz.func67, Tryz.ntmps67
      go_wp2
      go_ret
      exact ⟨rfl, rfl⟩
  · have g48 : decide ((48 : Int) ≤ (c : Int)) = false := by simp; omega
    have hv : isDig c = false := by simp [isDig, h48]
    rw [hv]
    clear hv
    go_enter Tryz.func67, Tryz.ntmps67
    go_wp2
    go_ret
    exact ⟨rfl, rfl⟩
section
variable {base : Nat} {S0 : Nat → Prop} {w0 w : World} {b : Nat} {L : LX}
/-- Draws turn nothing of it. -/
theorem At.any {w' : World} (h : At base S0 w0 w b L) (hh : w'.heap = w.heap) (ho : w'.os = w.os) (ht : w'.tape = w.tape) (hu : w'.output = w.output) : At base S0 w0 w' b L := by
  have e : w' = { w with drawn := w'.drawn } := by cases w; cases w'; simp_all
  rw [e]
  obtain ⟨S, tv, sv, pv, h1, h2, h3⟩ := h
  exact ⟨S, tv, sv, pv, ⟨h1.blk, h1.chan, h1.stack, h1.parts, h1.st, h1.hb, h1.hch, h1.hsv, h1.hpv, h1.base, h1.stv⟩, ⟨h2.os, h2.tape, h2.output, h2.size, h2.block⟩, h3⟩
theorem ign_c (h : At base S0 w0 w b L) :
    Calls Tryz.prog 126 #[.pointer (some ⟨b, 0, none⟩)] w fun e w' => e = .returned (.tuple #[]) ∧ At base S0 w0 w' b L.ign := by
  have c1 := h.c1
  have c2 := h.c2
  have c10 := h.c10
  have c11 := h.c11
  have f1 := h.free 1
  have f11 := h.free 11
  go_enter Tryz.func126, Tryz.ntmps126
  go_wp2
  go_end0
  exact ⟨rfl, (h.set (L' := { L with start := L.pos }) 1 (i64 L.pos) (fun _ _ _ => rfl) rfl rfl rfl rfl rfl rfl rfl).set (L' := L.ign) 11 (i64 L.lstart) (fun _ _ _ => rfl) rfl rfl rfl rfl rfl rfl rfl⟩
set_option maxRecDepth 100000 in
theorem back_eof (h : At base S0 w0 w b L) (ok : L.Ok) (p : Nat) (hp : L.pos = p + L.width) (hq : L.inp.size ≤ p) :
    Calls Tryz.prog 91 #[.pointer (some ⟨b, 0, none⟩)] w fun e w' => e = .returned (.tuple #[]) ∧ At base S0 w0 w' b { L with pos := p } := by
  have c0 := h.c0
  have c2 := h.c2
  have c3 := h.c3
  have f2 := h.free 2
  have hsm := ok.small
  have hpp := ok.pos
  have hwd := ok.width
  have g : decide (p < L.inp.size) = false := by simp; omega
  rw [hp] at c2 hpp
  rw [Int.natCast_add] at c2
  have HP := Lib.hid hp
  clear hp
  go_enter Tryz.func91, Tryz.ntmps91
  go_wp2
  refine wp_still_tail 11 mixed (by kernel_rfl) ?_
  simp only [List.take_succ_cons, List.take_zero, List.drop_succ_cons, List.drop_zero]
  repeat (still_step)
  refine wpStill_nil ?_
  go_wp2
  go_quiet (fail)
  go_wp2
  go_end0
  exact ⟨rfl, At.any (h.set (L' := { L with pos := p }) 2 (i64 p) (fun _ _ _ => rfl) rfl rfl rfl rfl rfl rfl rfl) rfl rfl rfl rfl⟩
set_option maxRecDepth 100000 in
theorem back_plain (h : At base S0 w0 w b L) (ok : L.Ok) (p : Nat) (hp : L.pos = p + L.width) (hq : p < L.inp.size) (hn : byteAt L.inp p ≠ 10) :
    Calls Tryz.prog 91 #[.pointer (some ⟨b, 0, none⟩)] w fun e w' => e = .returned (.tuple #[]) ∧ At base S0 w0 w' b { L with pos := p } := by
  have c0 := h.c0
  have c2 := h.c2
  have c3 := h.c3
  have f2 := h.free 2
  have hsm := ok.small
  have hpp := ok.pos
  have hwd := ok.width
  have g : decide (p < L.inp.size) = true := by simp; omega
  have hb : (((L.inp[p]'hq).toNat : Int) == 10) = false := by rw [byteAt_get]; simp; omega
  rw [hp] at c2 hpp
  rw [Int.natCast_add] at c2
  have HP := Lib.hid hp
  clear hp
  have HN := Lib.hid hn
  clear hn
  go_enter Tryz.func91, Tryz.ntmps91
  go_wp2
  refine wp_still_tail 11 mixed (by kernel_rfl) ?_
  simp only [List.take_succ_cons, List.take_zero, List.drop_succ_cons, List.drop_zero]
  repeat (still_step)
  refine wpStill_nil ?_
  go_wp2
  go_quiet (fail)
  go_wp2
  go_end0
  exact ⟨rfl, At.any (h.set (L' := { L with pos := p }) 2 (i64 p) (fun _ _ _ => rfl) rfl rfl rfl rfl rfl rfl rfl) rfl rfl rfl rfl⟩
set_option maxRecDepth 100000 in
theorem back_nl (h : At base S0 w0 w b L) (ok : L.Ok) (p : Nat) (hp : L.pos = p + L.width) (hq : p < L.inp.size) (hn : byteAt L.inp p = 10) :
    Calls Tryz.prog 91 #[.pointer (some ⟨b, 0, none⟩)] w fun e w' => e = .returned (.tuple #[]) ∧ At base S0 w0 w' b { L with pos := p, line := L.line - 1 } := by
  have c0 := h.c0
  have c2 := h.c2
  have c3 := h.c3
  have f2 := h.free 2
  have hsm := ok.small
  have hpp := ok.pos
  have hwd := ok.width
  have g : decide (p < L.inp.size) = true := by simp; omega
  have hb : (((L.inp[p]'hq).toNat : Int) == 10) = true := by rw [byteAt_get, hn]; rfl
  have c4 := h.c4
  have f4 := h.free 4
  have hl0 := ok.line0
  have hl1 := ok.line1
  rw [hp] at c2 hpp
  rw [Int.natCast_add] at c2
  have HP := Lib.hid hp
  clear hp
  have HN := Lib.hid hn
  clear hn
  go_enter Tryz.func91, Tryz.ntmps91
  go_wp2
  refine wp_still_tail 11 mixed (by kernel_rfl) ?_
  simp only [List.take_succ_cons, List.take_zero, List.drop_succ_cons, List.drop_zero]
  repeat (still_step)
  refine wpStill_nil ?_
  go_wp2
  go_quiet (fail)
  go_wp2
  go_end0
  exact ⟨rfl, At.any ((h.set (L' := { L with pos := p }) 2 (i64 p) (fun _ _ _ => rfl) rfl rfl rfl rfl rfl rfl rfl).set (L' := { L with pos := p, line := L.line - 1 }) 4 (i64 (L.line - 1)) (fun _ _ _ => rfl) rfl rfl rfl rfl rfl rfl rfl) rfl rfl rfl rfl⟩
theorem back_c (h : At base S0 w0 w b L) (ok : L.Ok) (hw : L.width ≤ L.pos) :
    Calls Tryz.prog 91 #[.pointer (some ⟨b, 0, none⟩)] w fun e w' => e = .returned (.tuple #[]) ∧ At base S0 w0 w' b L.back := by
  unfold LX.back
  have hp : L.pos = (L.pos - L.width) + L.width := by omega
  by_cases hq : L.pos - L.width < L.inp.size
  · by_cases hn : byteAt L.inp (L.pos - L.width) = 10
    · rw [if_pos ⟨hq, hn⟩]; exact back_nl h ok _ hp hq hn
    · rw [if_neg (fun e => hn e.2)]; exact back_plain h ok _ hp hq hn
  · rw [if_neg (fun e => hq e.1)]; exact back_eof h ok _ hp (by omega)
end
end Go.Cf
