/-
  Whole numbers are read: with a sign, with a bound.
-/
import Derived.Test.YtackodbeohaidaaGreatDoorT
import Derived.Deep.Cut
namespace Go.Cf
open Go.RowKit Go.Conc Go.Proofs
theorem nonempty_list (s : ByteArray) (hs : 0 < s.size) : (s.toList == []) = false := by
  rw [Lib.toList_data]
  cases h : s.data.toList with
  | nil => have : s.data.size = 0 := by rw [← Array.length_toList, h]; rfl
           have : s.size = s.data.size := rfl
           omega
  | cons => rfl
set_option maxRecDepth 100000 in
set_option maxHeartbeats 4000000 in
theorem parseInt_pos (s : ByteArray) (hs : 0 < s.size) (hd : isDigits s) (hn : numOf s.data.toList < 9223372036854775808) (hsm : s.size ≤ 1000000) (w : World) :
    Calls Tryz.prog 99 #[.string s, i64 10, i64 64] w fun e w' => e = .returned (.tuple #[.int .i64 (numOf s.data.toList : Nat), .nilIface]) ∧ Below w.heap.size w w' := by
  have HU := parseUint_c s hs hd (by omega) hsm w
  have h0 := hd 0 hs
  rw [← byteAt_get s 0 hs] at h0
  have h1 := h0.1
  have h2 := h0.2
  have e1 : (((s[0]'hs).toNat : Int) == 45) = false := beq_eq_false_iff_ne.2 (by omega)
  have e2 : (((s[0]'hs).toNat : Int) == 43) = false := beq_eq_false_iff_ne.2 (by omega)
  have hne := nonempty_list s hs
  obtain ⟨n, hnn⟩ : ∃ n, n = numOf s.data.toList := ⟨_, rfl⟩
  rw [← hnn] at hn HU ⊢
  have HH := Lib.hid hd
  have b1 : (n : Int) < 9223372036854775808 := by omega
  have HN := Lib.hid hn
  have d1 : decide ((9223372036854775808 : Int) ≤ (n : Int)) = false := decide_eq_false (by omega)
  have d2 : ¬ ((9223372036854775808 : Int) ≤ (n : Int)) := by omega
  have hw : IntKind.i64.wrap (n : Int) = (n : Int) := by rw [IntKind.wrap_i64]; omega
  have HB1 := Lib.hid b1
  clear hd hnn h0 hn b1
  go_enter Tryz.func99, Tryz.ntmps99
  go_wp2_with fail
  refine HU.mono ?_
  rintro e w1 ⟨rfl, hb⟩
  clear HU
  go_wp2
  go_ret2
  exact ⟨rfl, hb⟩
set_option maxRecDepth 100000 in
theorem ParseInt_pos (s : ByteArray) (hs : 0 < s.size) (hd : isDigits s) (hn : numOf s.data.toList < 9223372036854775808) (hsm : s.size ≤ 1000000) (w : World) :
    Calls Tryz.prog 68 #[.string s, i64 10, i64 64] w fun e w' => e = .returned (.tuple #[.int .i64 (numOf s.data.toList : Nat), .nilIface]) ∧ Below w.heap.size w w' := by
  have HU := parseInt_pos s hs hd hn hsm w
  clear hn hd
  go_enter Tryz.func68, Tryz.ntmps68
  go_wp2_with fail
  refine HU.mono ?_
  rintro e w1 ⟨rfl, hb⟩
  clear HU
  go_wp2
  go_ret2
  exact ⟨rfl, hb⟩
end Go.Cf
