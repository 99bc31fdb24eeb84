/-
  A value is laid into the innermost context.
-/
import Derived.Test.YtackodbeohaidaaGreatDoorO
namespace Go.Cf
open Go.RowKit Go.Conc Go.Proofs
/-- A pair among pairs whose keys rise. -/
def insL {α : Type} (x : ByteArray × α) : List (ByteArray × α) → List (ByteArray × α)
  | [] => [x]
  | y :: r => if bytesBefore x.1.data.toList y.1.data.toList then x :: y :: r else y :: insL x r
/-- 'm[k] = x'. -/
def putL {α : Type} (k : ByteArray) (x : α) (l : List (ByteArray × α)) : List (ByteArray × α) := insL (k, x) (l.filter fun p => !(p.1.data.toList == k.data.toList))
theorem insL_map {α β : Type} (g : α → β) (k : ByteArray) (x : α) : ∀ l : List (ByteArray × α), (insL (k, x) l).map (fun p => (p.1, g p.2)) = insL (k, g x) (l.map fun p => (p.1, g p.2))
  | [] => rfl
  | y :: r => by
    simp only [insL, List.map_cons]
    split
    · rfl
    · simp only [List.map_cons, insL_map g k x r]
theorem putL_map {α β : Type} (g : α → β) (k : ByteArray) (x : α) (l : List (ByteArray × α)) : (putL k x l).map (fun p => (p.1, g p.2)) = putL k (g x) (l.map fun p => (p.1, g p.2)) := by
  simp only [putL, insL_map, List.filter_map]
  rfl
theorem mem_insL {α : Type} {x y : ByteArray × α} : ∀ {l : List (ByteArray × α)}, y ∈ insL x l → y = x ∨ y ∈ l
  | [], h => by simp [insL] at h; exact .inl h
  | z :: r, h => by
    simp only [insL] at h
    split at h
    · simpa using h
    · rcases List.mem_cons.1 h with h | h
      · exact .inr (by simp [h])
      · rcases mem_insL h with h | h
        · exact .inl h
        · exact .inr (by simp [h])
theorem mem_putL {α : Type} {k : ByteArray} {x : α} {y : ByteArray × α} {l : List (ByteArray × α)} (h : y ∈ putL k x l) : y = (k, x) ∨ y ∈ l := by
  rcases mem_insL h with h | h
  · exact .inl h
  · exact .inr (List.mem_filter.1 h).1
theorem insert_entD (x : Ent) : ∀ t : List Ent, DataW.insert (.string x.1.data.toList, .held x.2.2) (t.map fun x => ((Lit.string x.1.data.toList, DataW.held x.2.2) : Lit × DataW Value)) = (insL x t).map fun x => (.string x.1.data.toList, .held x.2.2)
  | [] => rfl
  | y :: r => by
    by_cases h : bytesBefore x.1.data.toList y.1.data.toList = true
    · simp only [insL, List.map_cons, DataW.insert, Lit.before, h, if_true]
    · simp only [insL, List.map_cons, DataW.insert, Lit.before, h, insert_entD x r, if_false, Bool.false_eq_true]
theorem put_entD (k : ByteArray) (x : JV × Value) (t : List Ent) : (entD t).put (.string k.data.toList) (.held x.2) = entD (putL k x t) := by
  unfold entD DataW.put putL
  simp only [List.filter_map]
  rw [← insert_entD]
  rfl
section
variable {B : Nat} {lab lab1 : Lab} {w w1 : World} {K : PK} {X : PX} {M : Nat → Prop}
theorem isJs_iff : ∀ t : List Ent, isJs B lab w (t.map (·.2.1)) (t.map (·.2.2)) ↔ ∀ x ∈ t, isJ B lab w x.2.1 x.2.2
  | [] => by simp [isJs]
  | x :: t => by simp [isJs, isJs_iff t]
theorem isJs_app : ∀ {l : List JV} {xs : List Value} {j : JV} {v : Value}, isJs B lab w l xs → isJ B lab w j v → isJs B lab w (l ++ [j]) (xs ++ [v])
  | [], [], _, _, _, h => by simpa [isJs] using h
  | _ :: _, _ :: _, _, _, h, h' => by
    simp only [isJs, List.cons_append] at h ⊢
    exact ⟨h.1, isJs_app h.2 h'⟩
  | [], _ :: _, _, _, h, _ => by simp [isJs] at h
  | _ :: _, [], _, _, h, _ => by simp [isJs] at h
theorem Mp.exact {b n : Nat} {t : List Ent} (h : w.ownsMap Tryz.prog 9 anyR b n (entD t)) : w.ownsMap Tryz.prog 9 anyR b t.length (entD t) := by
  obtain ⟨es, clock, hb, F, hs, hD⟩ := h
  refine ⟨es, clock, hb, F, ?_, hD⟩
  have h1 := length_read (P := Tryz.prog) (k := 9) (R0 := anyR) es
  unfold entD at hD
  injection hD with hD
  rw [← hD] at h1
  simp at h1
  omega
/-- The value j is laid into the context c; the key, where c is a map. -/
def CJ.with : CJ → Option ByteArray → JV → CJ
  | .map m, some k, j => .map (putL k j m)
  | .map m, none, _ => .map m
  | .arr l, _, j => .arr (l ++ [j])
end
end Go.Cf
