/-
  The digits of a number, and what makes them.
-/
import Derived.Test.YtackodbeohaidaaGreatDoorU
import Derived.KernelRfl
import Derived.Laws.IdiomStrings
namespace Go.Cf
open Go.RowKit Go.Conc Go.Proofs
/-- The digits of a number. -/
def decS (n : Nat) : List UInt8 := if n ≤ 9 then [UInt8.ofNat (48 + n)] else decS (n / 10) ++ [UInt8.ofNat (48 + n % 10)]
termination_by n
decreasing_by omega
theorem byte48 (k : Nat) (h : k ≤ 9) : (UInt8.ofNat (48 + k)).toNat = 48 + k := by rw [UInt8.toNat_ofNat']; omega
theorem decS_num (n : Nat) : numOf (decS n) = n := by
  induction n using Nat.strongRecOn with
  | _ n ih =>
    rw [decS]
    split
    · next h => simp [numOf]; omega
    · next h => rw [numOf_snoc, ih _ (by omega), byte48 _ (by omega)]; omega
theorem decS_dig (n : Nat) : ∀ c ∈ decS n, 48 ≤ c.toNat ∧ c.toNat ≤ 57 := by
  induction n using Nat.strongRecOn with
  | _ n ih =>
    rw [decS]
    split
    · next h => intro c hc; rw [List.mem_singleton.1 hc, byte48 n h]; omega
    · next h =>
      intro c hc
      rcases List.mem_append.1 hc with hc | hc
      · exact ih _ (by omega) c hc
      · rw [List.mem_singleton.1 hc, byte48 _ (by omega)]; omega
theorem decS_len (n k : Nat) (hn : n < 10 ^ (k + 1)) : 0 < (decS n).length ∧ (decS n).length ≤ k + 1 := by
  induction k generalizing n with
  | zero => rw [decS, if_pos (by simp at hn; omega)]; simp
  | succ k ih =>
    rw [decS]
    split
    · simp
    · have := ih (n / 10) (by rw [Nat.pow_succ] at hn; omega)
      simp; omega
/-- The digits of a number, as a string. -/
def decB (n : Nat) : ByteArray := ⟨(decS n).toArray⟩
theorem decB_num (n : Nat) : numOf (decB n).data.toList = n := decS_num n
theorem decB_size (n : Nat) (h : n ≤ 1000000) : 0 < (decB n).size ∧ (decB n).size ≤ 7 := by
  have := decS_len n 6 (by omega)
  simpa [decB, ByteArray.size] using this
theorem decB_dig (n : Nat) : isDigits (decB n) := by
  intro i hi
  have hl : i < (decS n).length := by simpa [decB, ByteArray.size] using hi
  have h := decS_dig n (decS n)[i] (List.getElem_mem hl)
  have e : byteAt (decB n) i = ((decS n)[i]).toNat := by
    show ((decS n).toArray.toList.getD i 0).toNat = _
    rw [List.getD_eq_getElem?_getD, List.getElem?_eq_getElem (by simpa using hl)]
    rfl
  rw [e]
  exact h
theorem conv_digit (W : World) (k : Nat) (hk : k ≤ 9) : (convert 27 9 (.slice (some ⟨W.heap.size, 0, none⟩) 1 1)).run Tryz.prog (W.alloc (.cells #[.int .u8 (48 + (k : Int))] 5)) = .ok (.string ⟨#[UInt8.ofNat (48 + k)]⟩) (W.alloc (.cells #[.int .u8 (48 + (k : Int))] 5)) := by
  refine run_convert_bytes_back _ 27 9 5 ⟨W.heap.size, 0, none⟩ 1 [UInt8.ofNat (48 + k)] Tryz.underlying27 Tryz.underlying5 Tryz.underlying9 (fun j hj => ?_)
  obtain rfl : j = 0 := by simpa using hj
  have := blk_cell (heap_alloc_new W (.cells #[.int .u8 (48 + (k : Int))] 5)) 0
  simp only [List.getElem_cons_zero, byte48 k hk]
  exact this
set_option maxRecDepth 100000 in
set_option maxHeartbeats 1000000 in
theorem Decimal_c (n : Nat) (hn : n ≤ 1000000) (w : World) : Calls Tryz.prog 18 #[.int .i64 n] w fun e w' => e = .returned (.string (decB n)) ∧ Below w.heap.size w w' := by
  go_enter Tryz.func18, Tryz.ntmps18
  go_wp2_with fail
  go_loopw [0, 3] (fun a s wr => ∃ (m : Nat) (t : ByteArray), m ≤ n ∧ a = .int .i64 m ∧ s = .string t ∧ decS n = decS m ++ t.data.toList ∧ Below w.heap.size w wr) (fun a _ _ => (RowKit.intOf a).toNat)
  case atStart => exact ⟨n, { data := #[] }, Nat.le_refl _, rfl, rfl, by simp, Below.refl _ _⟩
  case round =>
    obtain ⟨m, t, hm, rfl, rfl, hd, hb⟩ := hrel
    have hl := (decS_len n 6 (by omega)).2
    rw [hd, List.length_append, data_length] at hl
    have ht : ¬ 9223372036854775807 < 1 + t.size := by omega
    have HD := Lib.hid hd
    clear hd hl
    by_cases h9 : m ≤ 9
    · have e1 : decide ((9 : Int) < (m : Int)) = false := decide_eq_false (by omega)
      have hcv := conv_digit wr m h9
      obtain ⟨c, hc⟩ : ∃ c, c = UInt8.ofNat (48 + m) := ⟨_, rfl⟩
      rw [← hc] at hcv
      have HC := Lib.hid hc
      clear hc
      go_wp2
      go_ret
      refine ⟨?_, hb.alloc hb.size _⟩
      have h := HD.out
      have h2 : decS m = [c] := by rw [decS, if_pos h9, HC.out]
      unfold decB
      rw [h, h2]
      congr 2
    · have e1 : decide ((9 : Int) < (m : Int)) = true := decide_eq_true (by omega)
      have hcv := conv_digit wr (m % 10) (by omega)
      obtain ⟨c, hc⟩ : ∃ c, c = UInt8.ofNat (48 + m % 10) := ⟨_, rfl⟩
      rw [← hc] at hcv
      have HC := Lib.hid hc
      have e2 : Int.tmod (m : Int) 10 = ((m % 10 : Nat) : Int) := rfl
      have e3 : Int.tdiv (m : Int) 10 = ((m / 10 : Nat) : Int) := rfl
      have e4 : ((m % 10 : Nat) : Int) ≤ 9 := by omega
      have e5 : ((m / 10 : Nat) : Int) ≤ 1000000 := by omega
      have e6 : ((m % 10 : Nat) : Int) = (m : Int) % 10 := by omega
      rw [e6] at hcv e2 e4
      have e7 : ((m / 10 : Nat) : Int) = (m : Int) / 10 := by omega
      rw [e7] at e3 e5
      clear e6 e7
      clear hc
      go_wp2
      go_roundw
      case rel =>
        have h2 : decS m = decS (m / 10) ++ [c] := by rw [decS, if_neg h9, HC.out]
        refine ⟨m / 10, ⟨#[c]⟩ ++ t, by omega, by go_num, rfl, ?_, hb.alloc hb.size _⟩
        rw [HD.out, h2, List.append_assoc, ByteArray.data_append, Array.toList_append]
      case measure => simp [RowKit.intOf]; omega
end Go.Cf
