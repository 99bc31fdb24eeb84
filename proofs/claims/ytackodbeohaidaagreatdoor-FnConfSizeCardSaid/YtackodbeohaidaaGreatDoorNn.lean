/-
  Values of a configuration as Nodes in memory; a row of strings is sorted.
-/
import Derived.Test.YtackodbeohaidaaGreatDoorP
import Derived.Test.YtackodbeohaidaaGreatDoorShelf
import Derived.Maps.RangeWalk
import Derived.Maps.Ext
import Derived.Sort.KeysCollected
import Derived.Sort.OwnSorted
namespace Go.Cf
open Go.RowKit Go.Conc Go.Proofs Go.Maps Go.Sort
abbrev nilS : Value := .slice none 0 0
/-- The seven cells of a Node. -/
abbrev ndC (k n : Int) (f : Nat) (b : Bool) (s : ByteArray) (kv lv : Value) : Array Value := #[.int .i64 k, .int .i64 n, .float .f64 f, .bool b, .string s, kv, lv]
abbrev flat (cs : List (Array Value)) : List Value := (cs.map Array.toList).flatten
mutual
/-- c is the value j as a Node; its rows bear 9. -/
def isN (B : Nat) (lab : Lab) (w : World) : JV → Array Value → Prop
  | .int n, c => c = ndC 1 n 0 false { data := #[] } nilS nilS
  | .num f, c => c = ndC 2 0 f false { data := #[] } nilS nilS
  | .tr b, c => c = ndC 3 0 0 b { data := #[] } nilS nilS
  | .txt s, c => c = ndC 4 0 0 false s nilS nilS
  | .arr l, c => ∃ lv cs, c = ndC 5 0 0 false { data := #[] } nilS lv ∧ Rw B 9 lab w 26 7 lv l.length (flat cs) ∧ isNs B lab w l cs
  | .map ks l, c => ∃ kv lv cs, c = ndC 6 0 0 false { data := #[] } kv lv ∧ Rw B 9 lab w 9 1 kv ks.length (ks.map .string) ∧ Rw B 9 lab w 26 7 lv l.length (flat cs) ∧ isNs B lab w l cs
def isNs (B : Nat) (lab : Lab) (w : World) : List JV → List (Array Value) → Prop
  | [], [] => True
  | j :: js, x :: xs => isN B lab w j x ∧ isNs B lab w js xs
  | _, _ => False
end
section
variable {B : Nat} {M : Nat → Prop} {w w1 : World} {lab lab1 : Lab}
mutual
theorem isN.mv (m : Mv M w lab w1 lab1) (hM : ¬ M 9) : ∀ (j : JV) (v : Array Value), isN B lab w j v → isN B lab1 w1 j v
  | .int n, v, h => h
  | .num n, v, h => h
  | .tr n, v, h => h
  | .txt n, v, h => h
  | .arr l, v, h => by
    simp only [isN] at h ⊢
    obtain ⟨s, xs, hv, hr, hj⟩ := h
    exact ⟨s, xs, hv, hr.mv m hM, isNs.mv m hM l xs hj⟩
  | .map ks l, v, h => by
    simp only [isN] at h ⊢
    obtain ⟨s, lv, xs, hv, hk, hr, hj⟩ := h
    exact ⟨s, lv, xs, hv, hk.mv m hM, hr.mv m hM, isNs.mv m hM l xs hj⟩
theorem isNs.mv (m : Mv M w lab w1 lab1) (hM : ¬ M 9) : ∀ (l : List JV) (xs : List (Array Value)), isNs B lab w l xs → isNs B lab1 w1 l xs
  | [], [], h => h
  | j :: js, x :: xs, h => by
    simp only [isNs] at h ⊢
    exact ⟨isN.mv m hM j x h.1, isNs.mv m hM js xs h.2⟩
  | [], _ :: _, h => by simp [isNs] at h
  | _ :: _, [], h => by simp [isNs] at h
end
theorem isNs_app : ∀ {l : List JV} {xs : List (Array Value)} {j : JV} {v : Array Value}, isNs B lab w l xs → isN B lab w j v → isNs B lab w (l ++ [j]) (xs ++ [v])
  | [], [], _, _, _, h => by simpa [isNs] using h
  | _ :: _, _ :: _, _, _, h, h' => by
    simp only [isNs, List.cons_append] at h ⊢
    exact ⟨h.1, isNs_app h.2 h'⟩
  | [], _ :: _, _, _, h, _ => by simp [isNs] at h
  | _ :: _, [], _, _, h, _ => by simp [isNs] at h
theorem isNs.len : ∀ {l : List JV} {xs : List (Array Value)}, isNs B lab w l xs → xs.length = l.length
  | [], [], _ => rfl
  | _ :: _, _ :: _, h => by
    simp only [isNs] at h
    simp [h.2.len]
  | [], _ :: _, h => by simp [isNs] at h
  | _ :: _, [], h => by simp [isNs] at h
theorem isJs.len : ∀ {l : List JV} {xs : List Value}, isJs B lab w l xs → xs.length = l.length
  | [], [], _ => rfl
  | _ :: _, _ :: _, h => by
    simp only [isJs] at h
    simp [h.2.len]
  | [], _ :: _, h => by simp [isJs] at h
  | _ :: _, [], h => by simp [isJs] at h
theorem isJs.get : ∀ {l : List JV} {xs : List Value} (i : Nat) (j : JV) (v : Value), isJs B lab w l xs → l[i]? = some j → xs[i]? = some v → isJ B lab w j v
  | _ :: _, _ :: _, 0, j, v, h, hj, hv => by
    simp only [isJs] at h
    simp only [List.getElem?_cons_zero, Option.some.injEq] at hj hv
    subst hj; subst hv
    exact h.1
  | _ :: _, _ :: _, i + 1, j, v, h, hj, hv => by
    simp only [isJs] at h
    exact isJs.get i j v h.2 (by simpa using hj) (by simpa using hv)
  | [], _, i, j, v, h, hj, hv => by simp at hj
  | _ :: _, [], i, j, v, h, hj, hv => by simp at hv
theorem Rw.low {B' ℓ e size n : Nat} {v : Value} {xs : List Value} (h : Rw B ℓ lab w e size v n xs) (hB : B' ≤ B) : Rw B' ℓ lab w e size v n xs := by
  obtain ⟨⟨hx, h0 | ⟨g, cap, cur, hv, hbg, hrest⟩⟩, hl⟩ := h
  · exact ⟨⟨hx, .inl h0⟩, hl⟩
  · exact ⟨⟨hx, .inr ⟨g, cap, cur, hv, by omega, hrest⟩⟩, hl⟩
theorem leB_of_before : ∀ a b : List UInt8, bytesBefore a b = true → a ≤ b
  | [], [], h => by simp [bytesBefore] at h
  | [], _ :: _, _ => by simp
  | _ :: _, [], h => by simp [bytesBefore] at h
  | x :: a, y :: b, h => by
    simp only [bytesBefore, Bool.or_eq_true, Bool.and_eq_true, decide_eq_true_eq, beq_iff_eq] at h
    rcases h with h | ⟨rfl, h⟩
    · exact List.le_of_lt (List.Lex.rel h)
    · have := leB_of_before a b h
      rw [List.cons_le_cons_iff]
      exact .inr ⟨rfl, this⟩
/-- The keys of a map rise: sorting them leaves them. -/
theorem sort_keys {ℓ b : Nat} {t : List Ent} (h : Mp ℓ lab w b t) : (t.map fun x => x.1.data.toList).mergeSort leB = t.map fun x => x.1.data.toList := by
  refine List.mergeSort_of_pairwise ?_
  have hc := h.1.canon (Maps.string_keyed Tryz.underlying9)
  obtain ⟨es, he, hs, _⟩ := hc
  simp only [entD, DataW.map.injEq] at he
  subst he
  rw [List.pairwise_map]
  have := List.pairwise_map.1 hs
  refine this.imp fun {x y} hxy => ?_
  simp only [leB, decide_eq_true_eq]
  exact leB_of_before _ _ hxy
/-- sort.Strings on a row that is owned. -/
theorem sort_c {base : Nat} {kv : Value} {ss : List (List UInt8)} (hrow : w.ownsRow base 9 1 kv ss.length (ss.map encStr)) (hsz : ss.length ≤ 1000000) :
    Calls Tryz.prog 40 #[kv] w fun e w' => e = .returned (.tuple #[]) ∧ w'.ownsRow base 9 1 kv ss.length ((ss.mergeSort leB).map encStr) ∧ w.grownBy w' kv.ownBlock := by
  obtain ⟨hx, h0 | ⟨g, cap, cur, hv, hbg, hblk, h1, h2, h3, h4⟩⟩ := hrow
  · obtain ⟨rfl, hn⟩ := h0
    have hss : ss = [] := List.eq_nil_of_length_eq_zero hn
    subst hss
    refine (Tryz.sort_Strings_none none 0 w).mono ?_
    rintro e w' ⟨rfl, rfl⟩
    refine ⟨rfl, ?_, World.grownBy.refl _ _⟩
    simpa using World.ownsRow_nil _ _ _ _
  · subst hv
    have hl : (ss.mergeSort leB).length = ss.length := List.length_mergeSort _
    refine (Tryz.sort_Strings g 0 cap ss w (holds_of_block hblk (by simpa using h4)) (lt_of_block hblk) (by omega)).mono ?_
    rintro e w' ⟨rfl, n, os, rfl⟩
    exact ⟨rfl, ownsRow_sorted hl hbg hblk h1 h2 h3, grownBy_sorted _⟩
mutual
/-- What fits. -/
def JV.fits : JV → Prop
  | .arr l => l.length ≤ 1000000 ∧ fitsL l
  | .map _ l => l.length ≤ 1000000 ∧ fitsL l
  | _ => True
def fitsL : List JV → Prop
  | [] => True
  | x :: r => JV.fits x ∧ fitsL r
end
theorem fitsL_iff : ∀ l : List JV, fitsL l ↔ ∀ x ∈ l, x.fits
  | [] => by simp [fitsL]
  | x :: r => by simp [fitsL, fitsL_iff r]
/-- node on j. -/
def Pnode (j : JV) : Prop := ∀ (B : Nat) (w : World) (lab : Lab) (v : Value), B ≤ w.heap.size → j.fits → isJ B lab w j v →
  Calls Tryz.prog 31 #[v] w fun e w' => ∃ c lab', e = .returned (.agg c) ∧ isN B lab' w' j c ∧ Mv (fun _ => False) w lab w' lab'
end
end Go.Cf
