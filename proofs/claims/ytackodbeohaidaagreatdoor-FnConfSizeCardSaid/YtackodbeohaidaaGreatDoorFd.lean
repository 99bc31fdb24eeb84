/-
  What a text feeds the parser, by plain data.
-/
import Derived.Test.YtackodbeohaidaaGreatDoorLd
import Derived.Test.YtackodbeohaidaaGreatDoorAC
import Derived.Test.YtackodbeohaidaaGreatDoorV3
namespace Go.Cf
open Go.RowKit Go.Conc Go.Proofs
/-- From here the text's items make the contexts 'fin'. -/
def Fd (K : PK) (s : ByteArray) (p st : Nat) (stk : List Nat) (t : Tag) (cx : List CJ) (ks : List ByteArray) (pt : Nat) (fin : List CJ) : Prop :=
  ∀ (L : LX) (prev : It), L.Is s p st stk t → prev.typ = pt → ∃ X', Feeds K ⟨L, cx, ks⟩ prev X' ∧ X'.cx = fin
section
variable {K : PK} {s : ByteArray} {p st p1 st1 : Nat} {stk stk1 : List Nat} {t t1 : Tag} {cx cx1 fin : List CJ} {ks ks1 : List ByteArray} {pt ty : Nat} {val : ByteArray} {line : Int}
theorem Fd.step (E : Emits s p st stk t ty val line p1 st1 stk1 t1) (hty : ty ≠ 2) (hw : ∀ (L : LX) (x : It), x.typ = ty → x.val = val → x.line = line → Works K ⟨L, cx, ks⟩ x ⟨L, cx1, ks1⟩)
    (hn : Fd K s p1 st1 stk1 t1 cx1 ks1 ty fin) : Fd K s p st stk t cx ks pt fin := by
  intro L prev hL hp
  obtain ⟨n, L', x, R, hq, h1, h2, h3, h4⟩ := E L hL
  obtain ⟨X', hF, hc⟩ := hn _ x h4 h1
  exact ⟨X', .step R hq (by rw [h1]; exact hty) (hw _ x h1 h2 h3) hF, hc⟩
theorem Fd.eof (E : Emits s p st stk t 2 val line p1 st1 stk1 t1) (hpt : pt ≠ 3) : Fd K s p st stk t cx ks pt cx := by
  intro L prev hL hp
  obtain ⟨n, L', x, R, hq, h1, h2, h3, h4⟩ := E L hL
  exact ⟨_, .eof R hq h1 (by rw [hp]; exact hpt), rfl⟩
theorem new_is (s : ByteArray) (c : Nat) (hs : s.size ≤ 1000000) (ha : ∀ i, i < s.size → byteAt s i < 128) : (LX.new s c).Is s 0 0 [] (plainT 60) :=
  ⟨⟨fresh_ok s c hs ha, rfl, rfl, rfl, rfl, rfl, rfl⟩, rfl⟩
theorem readAs_of {m : List (ByteArray × JV)} (hs : s.size ≤ 1000000) (ha : ∀ i, i < s.size → byteAt s i < 128) (h : ∀ K : PK, K.ped = false → Fd K s 0 0 [] (plainT 60) [.map []] [] 0 [.map m]) : ReadAs s m := by
  intro K c hK
  exact h K hK _ ⟨0, { data := #[] }, 0, 0⟩ (new_is s c hs ha) rfl
theorem works_key (hK : K.ped = false) (L : LX) (x : It) (hx : x.typ = 3) (hl : ks.length ≤ 1000000) : Works K ⟨L, cx, ks⟩ x ⟨L, cx, ks ++ [x.val]⟩ := by
  intro B lab w hB hp _
  obtain ⟨xt, xv, xl, xp⟩ := x
  obtain rfl : xt = 3 := hx
  exact item_key hp hB hK hl xv xl xp
end
end Go.Cf
