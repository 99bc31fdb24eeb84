/-
  A text is parsed.
-/
import Derived.Test.YtackodbeohaidaaGreatDoorAB
namespace Go.Cf
open Go.RowKit Go.Conc Go.Proofs
section
variable {B : Nat} {lab lab1 : Lab} {w w1 : World} {X X' : PX}
/-- A text that is read as the map m, whatever the parser's numbers. -/
def ReadAs (s : ByteArray) (m : List (ByteArray × JV)) : Prop :=
  ∀ (K : PK) (c : Nat), K.ped = false → ∃ X', Feeds K ⟨LX.new s c, [.map []], []⟩ ⟨0, { data := #[] }, 0, 0⟩ X' ∧ X'.cx = [.map m]
set_option maxRecDepth 100000 in
set_option maxHeartbeats 1000000 in
theorem parse39_c (s : ByteArray) (m : List (ByteArray × JV)) (hB : B ≤ w.heap.size) (htb : Tb lab w) (hr : ReadAs s m) :
    Calls Tryz.prog 39 #[.string s, .string { data := #[] }, .bool false] w fun e w' => ∃ p mp lab', e = .returned (.tuple #[.pointer (some ⟨p, 0, none⟩), .nilIface]) ∧
      w'.cell? ⟨p, 0, none⟩ = some (.map (some mp)) ∧ CAt B 10 lab' w' (.map m) (.iface 61 (.map (some mp))) ∧ Mv PM w lab w' lab' := by
  go_enter Tryz.func39, Tryz.ntmps39
  go_wp2_with fail
  refine (newParser_c (lab := lab) s false hB).mono ?_
  rintro e w1 ⟨K, c, lab1, hped, rfl, hn, m1⟩
  obtain ⟨X', hF, hcx⟩ := hr K c hped
  go_wp2_with fail
  refine (parse48_c hn (Nat.le_trans hB m1.size) (htb.mv m1 (fun h => h)) hF).mono ?_
  rintro e w2 ⟨rfl, lab2, h2, m2⟩
  obtain ⟨top, cv, kv, vs, hx⟩ := id h2
  obtain ⟨v, vs', rfl, hc, hcs⟩ := CsAt.form (hcx ▸ hx.cs)
  have hvs : vs' = [] := by
    cases vs' with
    | nil => rfl
    | cons x xs => exact hcs.elim
  subst hvs
  have hv := hx.root v (by simp)
  subst hv
  have c0 := h2.c0
  have M2 := (m1.mono (M' := PM) (fun _ h => h.elim)).trans m2 (fun _ h => h)
  clear hx hcs h2 hn hF hcx m1 m2 hped
  go_wp2
  go_ret2
  exact ⟨K.p, K.mp, lab2, rfl, c0, hc, M2⟩
set_option maxRecDepth 100000 in
set_option maxHeartbeats 1000000 in
theorem Parse_c (s : ByteArray) (m : List (ByteArray × JV)) (hB : B ≤ w.heap.size) (htb : Tb lab w) (hr : ReadAs s m) :
    Calls Tryz.prog 30 #[.string s] w fun e w' => ∃ mp lab', e = .returned (.tuple #[.map (some mp), .nilIface]) ∧ CAt B 10 lab' w' (.map m) (.iface 61 (.map (some mp))) ∧ Mv PM w lab w' lab' := by
  go_enter Tryz.func30, Tryz.ntmps30
  go_wp2_with fail
  refine (parse39_c s m hB htb hr).mono ?_
  rintro e w1 ⟨p, mp, lab1, rfl, c0, hc, m1⟩
  go_wp2
  go_ret2
  exact ⟨mp, lab1, rfl, hc, m1⟩
end
end Go.Cf
