/-
  Whole numbers are read.
-/
import Derived.Test.YtackodbeohaidaaGreatDoorF
import Derived.Lib.ConvBytes
namespace Go.Cf
open Go.RowKit Go.Conc Go.Proofs
/-- The number that digits are. -/
def numOf (l : List UInt8) : Nat := l.foldl (fun n c => n * 10 + (c.toNat - 48)) 0
def isDigits (s : ByteArray) : Prop := ∀ i, i < s.size → 48 ≤ byteAt s i ∧ byteAt s i ≤ 57
theorem numOf_snoc (l : List UInt8) (c : UInt8) : numOf (l ++ [c]) = numOf l * 10 + (c.toNat - 48) := by simp [numOf]
theorem numOf_take (s : ByteArray) (i : Nat) (h : i < s.size) : numOf (s.data.toList.take (i + 1)) = numOf (s.data.toList.take i) * 10 + (byteAt s i - 48) := by
  have h' : i < s.data.toList.length := by rw [data_length]; exact h
  rw [List.take_succ_eq_append_getElem h', numOf_snoc]
  have e : byteAt s i = (s.data.toList[i]).toNat := by unfold byteAt; rw [List.getD_eq_getElem?_getD, List.getElem?_eq_getElem h']; rfl
  rw [e]
theorem numOf_mono_app (l : List UInt8) : ∀ r : List UInt8, numOf l ≤ numOf (l ++ r) := by
  intro r
  induction r generalizing l with
  | nil => simp
  | cons c r ih =>
    have h1 := ih (l ++ [c])
    rw [numOf_snoc, List.append_assoc] at h1
    simp only [List.cons_append, List.nil_append] at h1
    omega
theorem numOf_take_le (s : ByteArray) (i : Nat) : numOf (s.data.toList.take i) ≤ numOf s.data.toList := by
  have := numOf_mono_app (s.data.toList.take i) (s.data.toList.drop i)
  rwa [List.take_append_drop] at this
set_option maxRecDepth 100000 in
set_option maxHeartbeats 4000000 in
theorem parseUint_c (s : ByteArray) (hs : 0 < s.size) (hd : isDigits s) (hn : numOf s.data.toList < 18446744073709551616) (hsm : s.size ≤ 1000000) (w : World) :
    Calls Tryz.prog 142 #[.string s, i64 10, i64 64] w fun e w' => e = .returned (.tuple #[.int .u64 (numOf s.data.toList : Nat), .nilIface]) ∧ Below w.heap.size w w' := by
  have hne : (s.toList == []) = false := by rw [Lib.toList_data]; cases h : s.data.toList with
    | nil => have : s.data.size = 0 := by rw [← Array.length_toList, h]; rfl
             have : s.size = s.data.size := rfl
             omega
    | cons => rfl
  have hcv := Go.Lib.run_convert_string_bytes w 9 27 5 s Tryz.underlying9 Tryz.underlying27 Tryz.underlying5
  have hcell := fun j hj => Go.Lib.bytesWorld_cell w 5 s j hj
  have hbel : Below w.heap.size w (Go.Lib.bytesWorld w 5 s) := ⟨rfl, rfl, rfl, by rw [Go.Lib.bytesWorld_size]; omega, fun k hk => Go.Lib.bytesWorld_at_old w 5 s k hk⟩
  obtain ⟨W, hW⟩ : ∃ W, W = Go.Lib.bytesWorld w 5 s := ⟨_, rfl⟩
  obtain ⟨cap, hcap⟩ : ∃ cap, cap = grownCap w s.size 0 5 := ⟨_, rfl⟩
  rw [← hW] at hcell hbel
  rw [← hW, ← hcap] at hcv
  have hcap2 : s.size ≤ cap := by rw [hcap]; exact grownCap_ge _ _ _ _
  have hw64 : IntKind.u64.wrap (IntKind.u64.wrap 18446744073709551616 - 1) = 18446744073709551615 := rfl
  clear hW hcap
  go_enter Tryz.func142, Tryz.ntmps142
  go_wp2_with fail
  have HD := Lib.hid hd
  have HN := Lib.hid hn
  have HC := Lib.hid hcell
  have HB := Lib.hid hbel
  clear hd hn hcell hbel hcv hw64 hne
  go_loop [11, 12, 88] (fun acc ub i => ∃ k : Nat, k ≤ s.size ∧ i = .int .i64 k ∧ ub = .bool false ∧ acc = .int .u64 (numOf (s.data.toList.take k) : Nat)) (fun _ _ i => s.size - (RowKit.intOf i).toNat)
  case atStart => exact ⟨0, Nat.zero_le _, rfl, rfl, rfl⟩
  case round =>
    obtain ⟨k, hk, rfl, rfl, rfl⟩ := hrel
    by_cases hlt : k < s.size
    · have hc := HC.out k hlt
      change W.cell? _ = some (.int .u8 (byteAt s k : Nat)) at hc
      have h1 := (HD.out k hlt).1
      have h2 := (HD.out k hlt).2
      have e1 : ((byteAt s k : Int) == 95) = false := beq_eq_false_iff_ne.2 (by omega)
      have hnt := numOf_take s k hlt
      have hle := numOf_take_le s (k + 1)
      have hn := HN.out
      obtain ⟨c, hcc⟩ : ∃ c, c = byteAt s k := ⟨_, rfl⟩
      obtain ⟨n, hnn⟩ : ∃ n, n = numOf (s.data.toList.take k) := ⟨_, rfl⟩
      rw [← hcc] at hc h1 h2 e1 hnt
      rw [← hnn] at hnt ⊢
      rw [hnt] at hle
      have b1 : (n : Int) * 10 + ((c : Int) - 48) < 18446744073709551616 := by omega
      have HT := Lib.hid hnt
      clear hnt hle hn hcc hnn
      go_wp2
      go_round
      case rel => exact ⟨k + 1, by omega, by go_num, rfl, by rw [HT.out]; congr 1; omega⟩
      case measure => simp [RowKit.intOf]; omega
    · have hks : k = s.size := by omega
      subst hks
      have hall : s.data.toList.take s.size = s.data.toList := List.take_of_length_le (by rw [data_length]; omega)
      rw [hall]
      go_wp2
      go_ret2
      exact ⟨rfl, HB.out⟩
end Go.Cf
