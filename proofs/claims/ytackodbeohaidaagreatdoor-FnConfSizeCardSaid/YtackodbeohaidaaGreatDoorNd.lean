/-
  A value is told as a Node: which kind it is.
-/
import Derived.Test.YtackodbeohaidaaGreatDoorS
namespace Go.Cf
open Go.RowKit Go.Conc Go.Proofs
theorem nt_2_2 (u : Value) (w : World) : (Instr.typeAssert (.iface 2 u) 20 2 true).run Tryz.prog w = .ok (.tuple #[u, .bool true]) w := by kernel_rfl
theorem nt_22_2 (u : Value) (w : World) : (Instr.typeAssert (.iface 22 u) 20 2 true).run Tryz.prog w = .ok (.tuple #[.int .i64 0, .bool false]) w := by kernel_rfl
theorem nt_22_22 (u : Value) (w : World) : (Instr.typeAssert (.iface 22 u) 20 22 true).run Tryz.prog w = .ok (.tuple #[u, .bool true]) w := by kernel_rfl
theorem nt_4_2 (u : Value) (w : World) : (Instr.typeAssert (.iface 4 u) 20 2 true).run Tryz.prog w = .ok (.tuple #[.int .i64 0, .bool false]) w := by kernel_rfl
theorem nt_4_22 (u : Value) (w : World) : (Instr.typeAssert (.iface 4 u) 20 22 true).run Tryz.prog w = .ok (.tuple #[.float .f64 0, .bool false]) w := by kernel_rfl
theorem nt_4_4 (u : Value) (w : World) : (Instr.typeAssert (.iface 4 u) 20 4 true).run Tryz.prog w = .ok (.tuple #[u, .bool true]) w := by kernel_rfl
theorem nt_9_2 (u : Value) (w : World) : (Instr.typeAssert (.iface 9 u) 20 2 true).run Tryz.prog w = .ok (.tuple #[.int .i64 0, .bool false]) w := by kernel_rfl
theorem nt_9_22 (u : Value) (w : World) : (Instr.typeAssert (.iface 9 u) 20 22 true).run Tryz.prog w = .ok (.tuple #[.float .f64 0, .bool false]) w := by kernel_rfl
theorem nt_9_4 (u : Value) (w : World) : (Instr.typeAssert (.iface 9 u) 20 4 true).run Tryz.prog w = .ok (.tuple #[.bool false, .bool false]) w := by kernel_rfl
theorem nt_9_9 (u : Value) (w : World) : (Instr.typeAssert (.iface 9 u) 20 9 true).run Tryz.prog w = .ok (.tuple #[u, .bool true]) w := by kernel_rfl
theorem nt_75_2 (u : Value) (w : World) : (Instr.typeAssert (.iface 75 u) 20 2 true).run Tryz.prog w = .ok (.tuple #[.int .i64 0, .bool false]) w := by kernel_rfl
theorem nt_75_22 (u : Value) (w : World) : (Instr.typeAssert (.iface 75 u) 20 22 true).run Tryz.prog w = .ok (.tuple #[.float .f64 0, .bool false]) w := by kernel_rfl
theorem nt_75_4 (u : Value) (w : World) : (Instr.typeAssert (.iface 75 u) 20 4 true).run Tryz.prog w = .ok (.tuple #[.bool false, .bool false]) w := by kernel_rfl
theorem nt_75_9 (u : Value) (w : World) : (Instr.typeAssert (.iface 75 u) 20 9 true).run Tryz.prog w = .ok (.tuple #[.string { data := #[] }, .bool false]) w := by kernel_rfl
theorem nt_75_75 (u : Value) (w : World) : (Instr.typeAssert (.iface 75 u) 20 75 true).run Tryz.prog w = .ok (.tuple #[u, .bool true]) w := by kernel_rfl
theorem nt_61_2 (u : Value) (w : World) : (Instr.typeAssert (.iface 61 u) 20 2 true).run Tryz.prog w = .ok (.tuple #[.int .i64 0, .bool false]) w := by kernel_rfl
theorem nt_61_22 (u : Value) (w : World) : (Instr.typeAssert (.iface 61 u) 20 22 true).run Tryz.prog w = .ok (.tuple #[.float .f64 0, .bool false]) w := by kernel_rfl
theorem nt_61_4 (u : Value) (w : World) : (Instr.typeAssert (.iface 61 u) 20 4 true).run Tryz.prog w = .ok (.tuple #[.bool false, .bool false]) w := by kernel_rfl
theorem nt_61_9 (u : Value) (w : World) : (Instr.typeAssert (.iface 61 u) 20 9 true).run Tryz.prog w = .ok (.tuple #[.string { data := #[] }, .bool false]) w := by kernel_rfl
theorem nt_61_75 (u : Value) (w : World) : (Instr.typeAssert (.iface 61 u) 20 75 true).run Tryz.prog w = .ok (.tuple #[.slice none 0 0, .bool false]) w := by kernel_rfl
theorem nt_61_61 (u : Value) (w : World) : (Instr.typeAssert (.iface 61 u) 20 61 true).run Tryz.prog w = .ok (.tuple #[u, .bool true]) w := by kernel_rfl
attribute [local go_sem ↓] nt_2_2 nt_22_2 nt_22_22 nt_4_2 nt_4_22 nt_4_4 nt_9_2 nt_9_22 nt_9_4 nt_9_9 nt_75_2 nt_75_22 nt_75_4 nt_75_9 nt_75_75 nt_61_2 nt_61_22 nt_61_4 nt_61_9 nt_61_75 nt_61_61
theorem run_store_flt {P : Program} {W : World} {A : Addr} {k : FloatKind} {f : Nat} {m : Mode} : (store A (.float k f) m).run P W = stored P W A (.float k f) m := run_store P W A _ m rfl
attribute [local go_sem] run_store_flt
theorem info26 : (Tryz.prog.info? 26).map (·.size) = some 7 := by kernel_rfl
section
variable {w : World}
set_option maxRecDepth 100000 in
set_option maxHeartbeats 1000000 in
theorem node_int (n : Int) : Calls Tryz.prog 31 #[.iface 2 (.int .i64 n)] w fun e w' => e = .returned (.agg #[i64 1, .int .i64 n, .float .f64 0, .bool false, .string { data := #[] }, .slice none 0 0, .slice none 0 0]) ∧ Below w.heap.size w w' := by
  have hb : ∀ o, Below w.heap.size w (w.alloc o) := fun o => (Below.refl _ w).alloc (Nat.le_refl _) o
  have HB := Lib.hid hb
  clear hb
  go_enter Tryz.func31, Tryz.ntmps31
  go_wp2
  refine bodyPost_ret (results_cell rfl rfl (heap_alloc_new w _) Tryz.underlying26 rfl info26) rfl ?_
  exact ⟨rfl, HB.out _⟩
set_option maxRecDepth 100000 in
set_option maxHeartbeats 1000000 in
theorem node_num (n : Nat) : Calls Tryz.prog 31 #[.iface 22 (.float .f64 n)] w fun e w' => e = .returned (.agg #[i64 2, i64 0, .float .f64 n, .bool false, .string { data := #[] }, .slice none 0 0, .slice none 0 0]) ∧ Below w.heap.size w w' := by
  have hb : ∀ o, Below w.heap.size w (w.alloc o) := fun o => (Below.refl _ w).alloc (Nat.le_refl _) o
  have HB := Lib.hid hb
  clear hb
  go_enter Tryz.func31, Tryz.ntmps31
  go_wp2
  refine bodyPost_ret (results_cell rfl rfl (heap_alloc_new w _) Tryz.underlying26 rfl info26) rfl ?_
  exact ⟨rfl, HB.out _⟩
set_option maxRecDepth 100000 in
set_option maxHeartbeats 1000000 in
theorem node_tr (n : Bool) : Calls Tryz.prog 31 #[.iface 4 (.bool n)] w fun e w' => e = .returned (.agg #[i64 3, i64 0, .float .f64 0, .bool n, .string { data := #[] }, .slice none 0 0, .slice none 0 0]) ∧ Below w.heap.size w w' := by
  have hb : ∀ o, Below w.heap.size w (w.alloc o) := fun o => (Below.refl _ w).alloc (Nat.le_refl _) o
  have HB := Lib.hid hb
  clear hb
  go_enter Tryz.func31, Tryz.ntmps31
  go_wp2
  refine bodyPost_ret (results_cell rfl rfl (heap_alloc_new w _) Tryz.underlying26 rfl info26) rfl ?_
  exact ⟨rfl, HB.out _⟩
set_option maxRecDepth 100000 in
set_option maxHeartbeats 1000000 in
theorem node_txt (n : ByteArray) : Calls Tryz.prog 31 #[.iface 9 (.string n)] w fun e w' => e = .returned (.agg #[i64 4, i64 0, .float .f64 0, .bool false, .string n, .slice none 0 0, .slice none 0 0]) ∧ Below w.heap.size w w' := by
  have hb : ∀ o, Below w.heap.size w (w.alloc o) := fun o => (Below.refl _ w).alloc (Nat.le_refl _) o
  have HB := Lib.hid hb
  clear hb
  go_enter Tryz.func31, Tryz.ntmps31
  go_wp2
  refine bodyPost_ret (results_cell rfl rfl (heap_alloc_new w _) Tryz.underlying26 rfl info26) rfl ?_
  exact ⟨rfl, HB.out _⟩
end
end Go.Cf
