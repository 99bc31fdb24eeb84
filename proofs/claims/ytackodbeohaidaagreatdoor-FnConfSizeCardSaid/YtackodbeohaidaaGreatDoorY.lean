/-
  The lexer is made.
-/
import Derived.Test.YtackodbeohaidaaGreatDoorS
namespace Go.Cf
open Go.RowKit Go.Conc Go.Proofs
section
variable {B : Nat} {lab lab1 : Lab} {w w1 : World}
theorem mk106 (w : World) : (Instr.makeSlice 106 (.int .i64 0) (.int .i64 10)).run Tryz.prog w = .ok (.slice (some ⟨w.heap.size, 0, none⟩) 0 10) (w.alloc (.cells #[.nilFunc, .nilFunc, .nilFunc, .nilFunc, .nilFunc, .nilFunc, .nilFunc, .nilFunc, .nilFunc, .nilFunc] 107)) := by kernel_rfl
theorem mk105 (w : World) : (Instr.makeChan 105 (.int .i64 10)).run Tryz.prog w = .ok (.chan (some w.heap.size)) (w.alloc (.chan 10 #[] false 0 0 false)) := by kernel_rfl
attribute [local go_sem ↓] mk106 mk105
/-- Four blocks are laid, and an order was drawn. -/
theorem four_blocks (w : World) (o0 o1 o2 o3 : Obj) :
    ((((w.alloc o0).alloc o1).alloc o2).alloc o3).drew.heap[w.heap.size]? = some o0 ∧ ((((w.alloc o0).alloc o1).alloc o2).alloc o3).drew.heap[w.heap.size + 1]? = some o1 ∧
    ((((w.alloc o0).alloc o1).alloc o2).alloc o3).drew.heap[w.heap.size + 1 + 1]? = some o2 ∧ ((((w.alloc o0).alloc o1).alloc o2).alloc o3).drew.heap[w.heap.size + 1 + 1 + 1]? = some o3 ∧
    Below w.heap.size w ((((w.alloc o0).alloc o1).alloc o2).alloc o3).drew := by
  have s1 := World.size_alloc w o0
  have s2 := World.size_alloc (w.alloc o0) o1
  have s3 := World.size_alloc ((w.alloc o0).alloc o1) o2
  refine ⟨?_, ?_, ?_, ?_, ?_⟩
  · show ((((w.alloc o0).alloc o1).alloc o2).alloc o3).heap[w.heap.size]? = some o0
    rw [Below.heap_alloc _ _ _ (by omega), Below.heap_alloc _ _ _ (by omega), Below.heap_alloc _ _ _ (by omega)]
    exact heap_alloc_new w o0
  · show ((((w.alloc o0).alloc o1).alloc o2).alloc o3).heap[w.heap.size + 1]? = some o1
    rw [Below.heap_alloc _ _ _ (by omega), Below.heap_alloc _ _ _ (by omega), ← s1]
    exact heap_alloc_new (w.alloc o0) o1
  · show ((((w.alloc o0).alloc o1).alloc o2).alloc o3).heap[w.heap.size + 1 + 1]? = some o2
    rw [Below.heap_alloc _ _ _ (by omega), ← s1, ← s2]
    exact heap_alloc_new ((w.alloc o0).alloc o1) o2
  · show ((((w.alloc o0).alloc o1).alloc o2).alloc o3).heap[w.heap.size + 1 + 1 + 1]? = some o3
    rw [← s1, ← s2, ← s3]
    exact heap_alloc_new (((w.alloc o0).alloc o1).alloc o2) o3
  · have h := ((((Below.refl _ w).alloc (Nat.le_refl _) o0).alloc (by omega) o1).alloc (by omega) o2).alloc (by omega) o3
    exact ⟨h.os, h.tape, h.output, h.size, h.block⟩
/-- The lexer at the beginning of a text. -/
def LX.new (s : ByteArray) (c : Nat) : LX :=
  { inp := s, start := 0, pos := 0, width := 0, line := 1, state := some (false, 60), ch := c, q := [], cs := 0, cr := 0, stack := [], parts := [], ssf := none, lstart := 0, ilstart := 0 }
theorem fresh_lx (s : ByteArray) (lab : Lab) {w W : World} {c g1 g2 b : Nat} (hB : B ≤ w.heap.size) (hbel : Below w.heap.size w W) (hc : W.heap[c]? = some (.chan 10 #[] false 0 0 false))
    (h1 : W.heap[g1]? = some (.cells #[.nilFunc, .nilFunc, .nilFunc, .nilFunc, .nilFunc, .nilFunc, .nilFunc, .nilFunc, .nilFunc, .nilFunc] 107 (0, 0))) (h2 : W.heap[g2]? = some (.cells #[] 9 (0, 0)))
    (hb : W.heap[b]? = some (.cells #[.string s, i64 0, i64 0, i64 0, i64 1, fnV 60, .chan (some c), .slice (some ⟨g1, 0, none⟩) 0 10, .slice (some ⟨g2, 0, none⟩) 0 0, .nilFunc, i64 0, i64 0] 109 (0, 0)))
    (l : w.heap.size ≤ c ∧ w.heap.size ≤ g1 ∧ w.heap.size ≤ g2 ∧ w.heap.size ≤ b) : Lx B (lab.ext w.heap.size 1) W b (LX.new s c) ∧ Mv (fun _ => False) w lab W (lab.ext w.heap.size 1) := by
  refine ⟨⟨fnV 60, .slice (some ⟨g1, 0, none⟩) 0 10, .slice (some ⟨g2, 0, none⟩) 0 0, ?_⟩, Mv.below hbel lab 1⟩
  exact {
    blk := hb
    chan := hc
    stack := ⟨rfl, .inr ⟨g1, 10, _, rfl, by omega, h1, Nat.zero_le _, by unfold maxLen; omega, rfl, rfl⟩⟩
    parts := ⟨rfl, .inr ⟨g2, 0, _, rfl, by omega, h2, Nat.zero_le _, by unfold maxLen; omega, rfl, rfl⟩⟩
    st := rfl
    hb := ⟨Lab.ext_ge l.2.2.2, lt_of_block hb⟩
    hch := ⟨Lab.ext_ge l.1, lt_of_block hc⟩
    hsv := fun k hk => by simp only [Value.ownBlock, Option.some.injEq] at hk; subst hk; exact ⟨Lab.ext_ge l.2.1, lt_of_block h1⟩
    hpv := fun k hk => by simp only [Value.ownBlock, Option.some.injEq] at hk; subst hk; exact ⟨Lab.ext_ge l.2.2.1, lt_of_block h2⟩
    base := by omega
    stv := fun g _ n hn => by simp [LX.new] at hn }
theorem fresh_ok (s : ByteArray) (c : Nat) (hs : s.size ≤ 1000000) (ha : ∀ i, i < s.size → byteAt s i < 128) : (LX.new s c).Ok :=
  ⟨hs, Nat.zero_le _, Nat.zero_le _, Nat.zero_le _, Nat.zero_le _, Nat.zero_le _, rfl, ha⟩
set_option maxRecDepth 100000 in
set_option maxHeartbeats 4000000 in
theorem lex_c (s : ByteArray) (lab : Lab) (hB : B ≤ w.heap.size) :
    Calls Tryz.prog 53 #[.string s] w fun e w' => ∃ b c, e = .returned (.pointer (some ⟨b, 0, none⟩)) ∧ Lx B (lab.ext w.heap.size 1) w' b (LX.new s c) ∧ Mv (fun _ => False) w lab w' (lab.ext w.heap.size 1) := by
  go_enter Tryz.func53, Tryz.ntmps53
  go_wp2_with fail
  go_region
  all_goals first
    | (obtain ⟨h0, h1, h2, h3, hb⟩ := four_blocks w (Obj.chan 10 #[] false 0 0 false) (Obj.cells #[.nilFunc, .nilFunc, .nilFunc, .nilFunc, .nilFunc, .nilFunc, .nilFunc, .nilFunc, .nilFunc, .nilFunc] 107) (Obj.cells #[] 9) (Obj.cells #[.string s, i64 0, i64 0, i64 0, i64 1, fnV 60, .chan (some (w.heap.size)), .slice (some ⟨w.heap.size + 1, 0, none⟩) 0 10, .slice (some ⟨w.heap.size + 1 + 1, 0, none⟩) 0 0, .nilFunc, i64 0, i64 0] 109)
       have K := fresh_lx s lab hB hb h0 h1 h2 h3 (by omega)
       clear h0 h1 h2 h3 hb
       go_wp2
       go_ret
       exact ⟨_, _, rfl, K⟩)
    | (obtain ⟨h0, h1, h2, h3, hb⟩ := four_blocks w (Obj.chan 10 #[] false 0 0 false) (Obj.cells #[] 9) (Obj.cells #[.nilFunc, .nilFunc, .nilFunc, .nilFunc, .nilFunc, .nilFunc, .nilFunc, .nilFunc, .nilFunc, .nilFunc] 107) (Obj.cells #[.string s, i64 0, i64 0, i64 0, i64 1, fnV 60, .chan (some (w.heap.size)), .slice (some ⟨w.heap.size + 1 + 1, 0, none⟩) 0 10, .slice (some ⟨w.heap.size + 1, 0, none⟩) 0 0, .nilFunc, i64 0, i64 0] 109)
       have K := fresh_lx s lab hB hb h0 h2 h1 h3 (by omega)
       clear h0 h1 h2 h3 hb
       go_wp2
       go_ret
       exact ⟨_, _, rfl, K⟩)
    | (obtain ⟨h0, h1, h2, h3, hb⟩ := four_blocks w (Obj.cells #[.nilFunc, .nilFunc, .nilFunc, .nilFunc, .nilFunc, .nilFunc, .nilFunc, .nilFunc, .nilFunc, .nilFunc] 107) (Obj.chan 10 #[] false 0 0 false) (Obj.cells #[] 9) (Obj.cells #[.string s, i64 0, i64 0, i64 0, i64 1, fnV 60, .chan (some (w.heap.size + 1)), .slice (some ⟨w.heap.size, 0, none⟩) 0 10, .slice (some ⟨w.heap.size + 1 + 1, 0, none⟩) 0 0, .nilFunc, i64 0, i64 0] 109)
       have K := fresh_lx s lab hB hb h1 h0 h2 h3 (by omega)
       clear h0 h1 h2 h3 hb
       go_wp2
       go_ret
       exact ⟨_, _, rfl, K⟩)
    | (obtain ⟨h0, h1, h2, h3, hb⟩ := four_blocks w (Obj.cells #[.nilFunc, .nilFunc, .nilFunc, .nilFunc, .nilFunc, .nilFunc, .nilFunc, .nilFunc, .nilFunc, .nilFunc] 107) (Obj.cells #[] 9) (Obj.chan 10 #[] false 0 0 false) (Obj.cells #[.string s, i64 0, i64 0, i64 0, i64 1, fnV 60, .chan (some (w.heap.size + 1 + 1)), .slice (some ⟨w.heap.size, 0, none⟩) 0 10, .slice (some ⟨w.heap.size + 1, 0, none⟩) 0 0, .nilFunc, i64 0, i64 0] 109)
       have K := fresh_lx s lab hB hb h2 h0 h1 h3 (by omega)
       clear h0 h1 h2 h3 hb
       go_wp2
       go_ret
       exact ⟨_, _, rfl, K⟩)
    | (obtain ⟨h0, h1, h2, h3, hb⟩ := four_blocks w (Obj.cells #[] 9) (Obj.chan 10 #[] false 0 0 false) (Obj.cells #[.nilFunc, .nilFunc, .nilFunc, .nilFunc, .nilFunc, .nilFunc, .nilFunc, .nilFunc, .nilFunc, .nilFunc] 107) (Obj.cells #[.string s, i64 0, i64 0, i64 0, i64 1, fnV 60, .chan (some (w.heap.size + 1)), .slice (some ⟨w.heap.size + 1 + 1, 0, none⟩) 0 10, .slice (some ⟨w.heap.size, 0, none⟩) 0 0, .nilFunc, i64 0, i64 0] 109)
       have K := fresh_lx s lab hB hb h1 h2 h0 h3 (by omega)
       clear h0 h1 h2 h3 hb
       go_wp2
       go_ret
       exact ⟨_, _, rfl, K⟩)
    | (obtain ⟨h0, h1, h2, h3, hb⟩ := four_blocks w (Obj.cells #[] 9) (Obj.cells #[.nilFunc, .nilFunc, .nilFunc, .nilFunc, .nilFunc, .nilFunc, .nilFunc, .nilFunc, .nilFunc, .nilFunc] 107) (Obj.chan 10 #[] false 0 0 false) (Obj.cells #[.string s, i64 0, i64 0, i64 0, i64 1, fnV 60, .chan (some (w.heap.size + 1 + 1)), .slice (some ⟨w.heap.size + 1, 0, none⟩) 0 10, .slice (some ⟨w.heap.size, 0, none⟩) 0 0, .nilFunc, i64 0, i64 0] 109)
       have K := fresh_lx s lab hB hb h2 h1 h0 h3 (by omega)
       clear h0 h1 h2 h3 hb
       go_wp2
       go_ret
       exact ⟨_, _, rfl, K⟩)
end
end Go.Cf
