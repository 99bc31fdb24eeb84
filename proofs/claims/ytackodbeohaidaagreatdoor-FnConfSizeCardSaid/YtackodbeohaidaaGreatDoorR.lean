/-
  An item is worked: the closure that lays a value; a key.
-/
import Derived.Test.YtackodbeohaidaaGreatDoorQ
import Derived.Deep.RegionHeld3
namespace Go.Cf
open Go.RowKit Go.Conc Go.Proofs
/-- The value j is laid into the innermost context. -/
inductive PX.Sets (X : PX) (j : JV) : PX → Prop
  | map (m : List (ByteArray × JV)) (cs : List CJ) (st : List ByteArray) (s : ByteArray) (hcx : X.cx = .map m :: cs) (hks : X.ks = st ++ [s]) (h1 : st.length ≤ 1000000) (h2 : m.length ≤ 1000000) (h3 : s.size ≤ 1000000) :
      Sets X j { X with cx := .map (putL s j m) :: cs, ks := st }
  | arr (l : List JV) (cs : List CJ) (hcx : X.cx = .arr l :: cs) (h1 : cs.length ≤ 1000000) (h2 : l.length ≤ 1000000) : Sets X j { X with cx := .arr (l ++ [j]) :: cs }
section
variable {B : Nat} {lab lab1 : Lab} {w w1 : World} {K : PK} {X X' : PX} {M : Nat → Prop}
theorem setValue_c (h : PAt B lab w K X) (hB : B ≤ w.heap.size) (hped : K.ped = false) {j : JV} (hs : X.Sets j X') (t : TypeId) (u : Value) (hj : isJ B lab w j (.iface t u)) :
    Calls Tryz.prog 63 #[.pointer (some ⟨K.p, 0, none⟩), .iface t u] w fun e w' => e = .returned (.tuple #[]) ∧ ∃ lab', PAt B lab' w' K X' ∧ Mv PM w lab w' lab' := by
  cases hs with
  | map m cs st s hcx hks h1 h2 h3 => exact setValue_map m cs st s h hped hcx hks h1 h2 h3 j t u hj
  | arr l cs hcx h1 h2 => exact setValue_arr l cs h hB hcx h1 h2 j t u hj
/-- A block of the caller's own. -/
theorem PAt.alloc7 (h : PAt B lab w K X) (o : Obj) : PAt B (lab.ext w.heap.size 7) (w.alloc o) K X := h.mv (Mv.alloc (M := fun _ => False) w lab o 7) (fun _ _ h => h)
set_option maxHeartbeats 400000 in
theorem lay_c (h : PAt B lab w K X) (hB : B ≤ w.heap.size) (hped : K.ped = false) {j : JV} (hs : X.Sets j X') (t : TypeId) (u : Value) (hj : isJ B lab w j (.iface t u)) (gp gf : Nat) (hgp : Cl 7 lab w gp #[.pointer (some ⟨K.p, 0, none⟩)] 71)
    (xt : Nat) (xv : ByteArray) (xl xp : Int) :
    Calls Tryz.prog 62 #[.agg #[i64 xt, .string xv, i64 xl, i64 xp], .iface t u, .pointer (some ⟨gp, 0, none⟩), .pointer (some ⟨gf, 0, none⟩)] w fun e w' => e = .returned (.tuple #[]) ∧ ∃ lab', PAt B lab' w' K X' ∧ Mv PM w lab w' lab' := by
  have m0 : ∀ o, Mv (fun _ => False) w lab (w.alloc o) (lab.ext w.heap.size 7) := fun o => Mv.alloc w lab o 7
  have hB2 : ∀ o, B ≤ (w.alloc o).heap.size := fun o => by rw [World.size_alloc]; omega
  have d0 : w.cell? ⟨gp, 0, none⟩ = some (.pointer (some ⟨K.p, 0, none⟩)) := hgp.cell 0
  have e0 : ∀ o, (w.alloc o).cell? ⟨gp, 0, none⟩ = some (.pointer (some ⟨K.p, 0, none⟩)) := fun o => (World.cell?_alloc_lt w o _ (World.block_lt_of_cell? w _ d0)).trans d0
  obtain ⟨top, cv, kv, vs, hx⟩ := id h
  have c7 : w.cell? ⟨K.p, 7, none⟩ = some (.bool K.ped) := hx.cl.cell 7
  rw [hped] at c7
  have e7 : ∀ o, (w.alloc o).cell? ⟨K.p, 7, none⟩ = some (.bool false) := fun o => (World.cell?_alloc_lt w o _ (World.block_lt_of_cell? w _ c7)).trans c7
  clear hx
  go_enter Tryz.func62, Tryz.ntmps62
  go_wp2_with fail
  refine (setValue_c (h.mv (m0 _) (fun _ _ h => h)) (hB2 _) hped hs t u (isJ.mv (m0 _) (fun h => h) _ _ hj)).mono ?_
  rintro e w1 ⟨rfl, lab', h', m'⟩
  go_wp2
  go_end0
  exact ⟨rfl, lab', h', ((m0 _).mono (fun _ h => h.elim)).trans m' (fun _ h => h)⟩
end
end Go.Cf
