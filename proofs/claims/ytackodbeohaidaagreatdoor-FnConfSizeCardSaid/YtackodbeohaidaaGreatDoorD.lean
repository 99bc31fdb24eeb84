/-
  The lexer's small functions: the next byte, a step back, a look ahead; predicates on bytes.
-/
import Derived.Test.YtackodbeohaidaaGreatDoorC
import Derived.Test.YtackodbeohaidaaGreatDoorProg
import Derived.Outline
namespace Go.Cf
open Go.RowKit Go.Conc Go.Proofs
theorem mixed : Tryz.prog.follows .mixedOrders = true := by kernel_rfl
theorem decode_asc (t : ByteArray) (w : World) (h0 : 0 < t.size) (h1 : byteAt t 0 < 128) :
    Calls Tryz.prog 124 #[.string t] w fun e w' => e = .returned (.tuple #[.int .i32 (byteAt t 0), i64 1]) ∧ w' = w := by
  have hne := toList_some h0
  have hb := byteAt_get t 0 h0
  have h2 : ((t[0]'h0).toNat : Int) < 128 := by omega
  rw [← hb]
  clear h1 hb
  go_enter Tryz.func124, Tryz.ntmps124
  go_wp2_with fail
  go_ret2
  exact ⟨rfl, rfl⟩
section
variable {base : Nat} {S0 : Nat → Prop} {w0 w : World} {b : Nat} {L : LX}
theorem next_eof (h : At base S0 w0 w b L) (ok : L.Ok) (he : L.inp.size ≤ L.pos) :
    Calls Tryz.prog 85 #[.pointer (some ⟨b, 0, none⟩)] w fun e w' => e = .returned (.int .i32 0) ∧ At base S0 w0 w' b { L with width := 0 } := by
  have c0 := h.c0
  have c2 := h.c2
  have c3 := h.c3
  have f3 := h.free 3
  have hsm := ok.small
  have hpp := ok.pos
  go_enter Tryz.func85, Tryz.ntmps85
  go_wp2
  go_quiet (fail)
  go_wp2
  go_ret
  exact ⟨rfl, (h.drewN _).set 3 _ (fun _ _ _ => rfl) rfl rfl rfl rfl rfl rfl rfl⟩
set_option maxRecDepth 100000 in
theorem next_plain (h : At base S0 w0 w b L) (ok : L.Ok) (he : L.pos < L.inp.size) (hc : byteAt L.inp L.pos ≠ 10) :
    Calls Tryz.prog 85 #[.pointer (some ⟨b, 0, none⟩)] w fun e w' => e = .returned (.int .i32 (byteAt L.inp L.pos)) ∧ At base S0 w0 w' b { L with width := 1, pos := L.pos + 1 } := by
  have c0 := h.c0
  have c2 := h.c2
  have c3 := h.c3
  have f3 := h.free 3
  have f2 := h.free 2
  have hsm := ok.small
  have hb : (((L.inp[L.pos]'he).toNat : Int) == 10) = false := by
    rw [byteAt_get]; simp; omega
  have hasc := ok.asc L.pos he
  have hle := ok.pos
  go_enter Tryz.func85, Tryz.ntmps85
  go_wp2
  go_quiet (fail)
  go_wp2
  go_quiet (fail)
  go_wp2
  have hx0 : 0 < (L.inp.extract L.pos L.inp.size).size := by simp; omega
  have hx1 : byteAt (L.inp.extract L.pos L.inp.size) 0 < 128 := by rw [byteAt_extract]; exact hasc
  have hdec := fun W => decode_asc (L.inp.extract L.pos L.inp.size) W hx0 hx1
  rw [byteAt_extract, Nat.add_zero] at hdec
  clear hx0 hx1 hasc hb
  refine wp_still_tail 17 mixed (by kernel_rfl) ?_
  simp only [List.take_succ_cons, List.take_zero, List.drop_succ_cons, List.drop_zero]
  repeat (first | still_step | still_call (hdec _))
  refine wpStill_nil ?_
  go_wp2
  refine wp_still_tail 11 mixed (by kernel_rfl) ?_
  simp only [List.take_succ_cons, List.take_zero, List.drop_succ_cons, List.drop_zero]
  repeat (still_step)
  refine wpStill_nil ?_
  go_wp2
  go_ret
  have k := fun n => ((h.drewN n).set (L' := { L with width := 1 }) 3 (i64 1) (fun _ _ _ => rfl) rfl rfl rfl rfl rfl rfl rfl).set (L' := { L with width := 1, pos := L.pos + 1 }) 2 (i64 ((L.pos : Int) + 1)) (fun _ _ _ => rfl) rfl rfl rfl rfl rfl rfl rfl
  exact ⟨rfl, (k _).drew⟩
set_option maxRecDepth 100000 in
theorem next_nl (h : At base S0 w0 w b L) (ok : L.Ok) (he : L.pos < L.inp.size) (hc : byteAt L.inp L.pos = 10) :
    Calls Tryz.prog 85 #[.pointer (some ⟨b, 0, none⟩)] w fun e w' => e = .returned (.int .i32 10) ∧ At base S0 w0 w' b { L with width := 1, pos := L.pos + 1, line := L.line + 1, lstart := L.pos } := by
  have c0 := h.c0
  have c2 := h.c2
  have c3 := h.c3
  have c4 := h.c4
  have c10 := h.c10
  have f3 := h.free 3
  have f2 := h.free 2
  have f4 := h.free 4
  have f10 := h.free 10
  have hsm := ok.small
  have hl0 := ok.line0
  have hl1 := ok.line1
  have hb : (((L.inp[L.pos]'he).toNat : Int) == 10) = true := by
    rw [byteAt_get, hc]; rfl
  have hle := ok.pos
  have hasc := ok.asc L.pos he
  have hx0 : 0 < (L.inp.extract L.pos L.inp.size).size := by simp; omega
  have hx1 : byteAt (L.inp.extract L.pos L.inp.size) 0 < 128 := by rw [byteAt_extract]; exact hasc
  have hdec := fun W => decode_asc (L.inp.extract L.pos L.inp.size) W hx0 hx1
  rw [byteAt_extract, Nat.add_zero, hc] at hdec
  clear hx0 hx1 hasc
  have HD := Lib.hid hdec
  clear hdec
  have HC := Lib.hid hc
  clear hc
  go_enter Tryz.func85, Tryz.ntmps85
  go_wp2
  go_quiet (fail)
  go_wp2
  go_quiet (fail)
  clear hb
  go_wp2
  refine wp_still_tail 17 mixed (by kernel_rfl) ?_
  simp only [List.take_succ_cons, List.take_zero, List.drop_succ_cons, List.drop_zero]
  repeat (first | still_step | still_call (HD.out _))
  refine wpStill_nil ?_
  go_wp2
  refine wp_still_tail 11 mixed (by kernel_rfl) ?_
  simp only [List.take_succ_cons, List.take_zero, List.drop_succ_cons, List.drop_zero]
  repeat (still_step)
  refine wpStill_nil ?_
  go_wp2
  go_ret
  have k := fun n => ((((h.drewN n).set (L' := { L with line := L.line + 1 }) 4 (i64 (L.line + 1)) (fun _ _ _ => rfl) rfl rfl rfl rfl rfl rfl rfl).set (L' := { L with line := L.line + 1, lstart := L.pos }) 10 (i64 L.pos) (fun _ _ _ => rfl) rfl rfl rfl rfl rfl rfl rfl).set (L' := { L with line := L.line + 1, lstart := L.pos, width := 1 }) 3 (i64 1) (fun _ _ _ => rfl) rfl rfl rfl rfl rfl rfl rfl).set (L' := { L with line := L.line + 1, lstart := L.pos, width := 1, pos := L.pos + 1 }) 2 (i64 ((L.pos : Int) + 1)) (fun _ _ _ => rfl) rfl rfl rfl rfl rfl rfl rfl
  exact ⟨rfl, (k _).drew.drew⟩
theorem next_c (h : At base S0 w0 w b L) (ok : L.Ok) :
    Calls Tryz.prog 85 #[.pointer (some ⟨b, 0, none⟩)] w fun e w' => e = .returned (.int .i32 L.chr) ∧ At base S0 w0 w' b L.nxt := by
  unfold LX.chr LX.nxt
  by_cases he : L.inp.size ≤ L.pos
  · rw [if_pos he, if_pos he]; exact next_eof h ok he
  · rw [if_neg he, if_neg he]
    by_cases hc : byteAt L.inp L.pos = 10
    · rw [if_pos hc, hc]; exact next_nl h ok (by omega) hc
    · rw [if_neg hc]; exact next_plain h ok (by omega) hc
end
end Go.Cf
