/-
  FnConfVariable answers true at every value and every spelling, and its arguments read afterwards as they did; conditions: the row's listed package-level variables hold what the program's text lays.
-/
import Derived.Test.YtackodbeohaidaaGreatDoorCards
import Derived.Test.YtackodbeohaidaaGreatDoorTie
import Derived.Test.YtackodbeohaidaaGreatDoorVz16
import Derived.WalkKit
import Derived.ProofKit
import Derived.OpenShut
import Derived.Deep.DeepHandedRow
import Derived.Deep.DeepWitnessRowRef
import Derived.Lib.LaidTab
import Derived.Lay
import Derived.Deep.Strs
import Derived.Laws.Cover2
import Derived.Carry
import Derived.Lib.SmallJoins
namespace Go.Proofs.YtackodbeohaidaaGreatDoor.fnConfVariable
open Go.ChangeShapes Go.WideShapes Go.ChangeAt Go.RowKit
theorem own : ownKnob Tryz.prog.godebug = none := by kernel_rfl
theorem gTab : Tryz.prog.globalNamed "strings.asciiSpace" = some 1 := by kernel_rfl
theorem gTabType : (Tryz.prog.globals[1]?).map (·.type) = some 161 := by kernel_rfl
theorem cells161 : Tryz.prog.cellsOf 161 = 256 := by kernel_rfl
theorem cells5 : Tryz.prog.cellsOf 5 = 1 := by kernel_rfl
theorem tabEq : (Rows.laid_strings_asciiSpace : DataW Unit) = Lib.tabData .u8 Lib.asciiSpaceTab := by kernel_rfl
theorem laid_tail {P : Program} {w : World} {x : String × DataW Unit} {r : List (String × DataW Unit)} (h : laidMet P (x :: r) w) : laidMet P r w := by
  obtain ⟨ps, hv, hn, hf⟩ := h
  obtain ⟨g, t, cs, fuel, p, q, _, _, _, _, hq, rfl⟩ := hv
  exact ⟨q, hq, (List.nodup_append.1 hn).2.1, fun b off hm => hf b off (List.mem_append_right _ hm)⟩
/-- What the row's list gives: the table of strings. -/
theorem table {W : World} (h : laidMet Tryz.prog Rows.fnConfVariableRow.laid W) : Lib.TabIs Tryz.prog W "strings.asciiSpace" .u8 Lib.asciiSpaceTab := by
  have h1 : laidMet Tryz.prog ((("strings.asciiSpace", Lib.tabData .u8 Lib.asciiSpaceTab) : String × DataW Unit) :: (Rows.fnConfVariableRow.laid.drop 3)) W := by
    have h2 : laidMet Tryz.prog (Rows.fnConfVariableRow.laid.drop 2) W := laid_tail (laid_tail h)
    rw [← tabEq]
    exact h2
  exact Lib.tabIs_of_head gTab gTabType Tryz.underlying161 Tryz.underlying5 cells5 cells161 h1
section
open Go.Joins Go.Deep
variable {H : Type} {enc : TypeId × Value → H} {P : Program} {w : World} {base : Nat} {spare : Nat → Bool} {held : Bool}
theorem open_agg7 {r : Reach} {b0 : Nat} {t : TypeId} {f0 f1 f2 f3 f4 f5 f6 : Field} {v : Value} {d : DataW H} {p : List MemPlace} (hs : P.underlying t = some (.struct #[f0, f1, f2, f3, f4, f5, f6])) (hone : oneCellFields P #[f0, f1, f2, f3, f4, f5, f6] = true) (hC : P.cellsOf t = 7)
    (hv : Value.okWide P w r b0 t v) (h : DataW.Trod enc P w base spare held t v d p) :
    ∃ (v0 v1 v2 v3 v4 v5 v6 : Value) (y0 y1 y2 y3 y4 y5 y6 : DataW H × List MemPlace) (n : Nat), v = .agg #[v0, v1, v2, v3, v4, v5, v6] ∧
      DataW.trod enc P w base spare held n f0.type [v0] = some y0 ∧ DataW.trod enc P w base spare held n f1.type [v1] = some y1 ∧ DataW.trod enc P w base spare held n f2.type [v2] = some y2 ∧ DataW.trod enc P w base spare held n f3.type [v3] = some y3 ∧ DataW.trod enc P w base spare held n f4.type [v4] = some y4 ∧ DataW.trod enc P w base spare held n f5.type [v5] = some y5 ∧ DataW.trod enc P w base spare held n f6.type [v6] = some y6 := by
  obtain ⟨cs, rfl, hsz⟩ := okWide_struct hs hv
  obtain ⟨l⟩ := cs
  match l, hsz.trans hC with
  | [c0, c1, c2, c3, c4, c5, c6], _ =>
    obtain ⟨fuel, hf⟩ := h
    obtain ⟨xs, n, _, hx, _, hlen, hg⟩ := DataW.trod_struct hs hf
    obtain ⟨o0, k0⟩ := hone_of hone 0 f0 rfl
    obtain ⟨o1, k1⟩ := hone_of hone 1 f1 rfl
    obtain ⟨o2, k2⟩ := hone_of hone 2 f2 rfl
    obtain ⟨o3, k3⟩ := hone_of hone 3 f3 rfl
    obtain ⟨o4, k4⟩ := hone_of hone 4 f4 rfl
    obtain ⟨o5, k5⟩ := hone_of hone 5 f5 rfl
    obtain ⟨o6, k6⟩ := hone_of hone 6 f6 rfl
    match xs, hlen with
    | [y0, y1, y2, y3, y4, y5, y6], _ =>
      exact ⟨c0, c1, c2, c3, c4, c5, c6, y0, y1, y2, y3, y4, y5, y6, n, rfl, by simpa [Value.cells, o0, k0] using hg 0 f0 rfl, by simpa [Value.cells, o1, k1] using hg 1 f1 rfl, by simpa [Value.cells, o2, k2] using hg 2 f2 rfl, by simpa [Value.cells, o3, k3] using hg 3 f3 rfl, by simpa [Value.cells, o4, k4] using hg 4 f4 rfl, by simpa [Value.cells, o5, k5] using hg 5 f5 rfl, by simpa [Value.cells, o6, k6] using hg 6 f6 rfl⟩
theorem trod_flt {t : TypeId} {k : FloatKind} {fuel : Nat} {cs : List Value} {x : DataW H × List MemPlace} (ht : P.underlying t = some (.float k)) (h : DataW.trod enc P w base spare held fuel t cs = some x) : ∃ n, cs = [.float k n] := by
  cases fuel with
  | zero => simp [DataW.trod] at h
  | succ n =>
    unfold DataW.trod at h
    rw [ht] at h
    split at h <;> simp_all
theorem trod_sl {t e : TypeId} {fuel : Nat} {cs : List Value} {x : DataW H × List MemPlace} (ht : P.underlying t = some (.slice e)) (h : DataW.trod enc P w base spare held fuel t cs = some x) : ∃ a len cap, cs = [.slice a len cap] ∧ len ≤ maxLen := by
  rcases open_slice ht h with ⟨rfl, _⟩ | ⟨a, len, cap, m, n, D, Pl, hcs, hb, hl, hm, _⟩
  · exact ⟨none, 0, 0, rfl, Nat.zero_le _⟩
  · exact ⟨some a, len, cap, hcs, Nat.le_trans hl hm⟩
/-- The keys of a value that is handed in can be read. -/
theorem keys_in {t e : TypeId} {fuel : Nat} {cs : List Value} {x : DataW H × List MemPlace} (ht : P.underlying t = some (.slice e)) (he : P.underlying e = some .string) (hc : P.cellsOf e = 1) (h : DataW.trod enc P w base (fun _ => true) held fuel t cs = some x) :
    ∃ a len cap, cs = [.slice a len cap] ∧ len ≤ maxLen ∧ Go.Cf.KeysIn w a len := by
  rcases open_strs ht he hc h with ⟨rfl, _⟩ | ⟨a, len, cap, m, Sx, rfl, hb, hl, hm, hmm, _, hS⟩
  · exact ⟨none, 0, 0, rfl, Nat.zero_le _, .inl rfl⟩
  · refine ⟨some a, len, cap, rfl, Nat.le_trans hl hm, .inr ⟨a, rfl, fun i hi => ⟨Sx i, hS i ?_⟩⟩⟩
    rw [hmm, if_pos rfl]
    omega
/-- The spellings that are handed in. -/
theorem style_in {t e : TypeId} {fuel : Nat} {cs : List Value} {x : DataW H × List MemPlace} (ht : P.underlying t = some (.slice e)) (he : P.underlying e = some (.int .u8)) (hc : P.cellsOf e = 1) (h : DataW.trod enc P w base (fun _ => true) held fuel t cs = some x) :
    ∃ (a : Option Addr) (c : Nat) (style : List UInt8), cs = [.slice a style.length c] ∧ style.length ≤ maxLen ∧ Go.Cf.Sty Go.Cf.L0 w (.slice a style.length c) style := by
  rcases open_ints ht he hc h with ⟨rfl, _⟩ | ⟨a, len, cap, zs, rfl, hb, hl, hm, hz, _, hS, hwf⟩
  · exact ⟨none, 0, [], rfl, Nat.zero_le _, none, 0, rfl, Nat.le_refl _, Nat.zero_le _, fun h => absurd rfl h⟩
  · rw [if_pos rfl] at hz
    have hlen : ((zs.take len).map fun z => UInt8.ofNat z.toNat).length = len := by rw [List.length_map, List.length_take]; omega
    refine ⟨some a, cap, (zs.take len).map fun z => UInt8.ofNat z.toNat, by rw [hlen], by rw [hlen]; omega, some a, cap, rfl, by rw [hlen]; exact hl, hm, fun _ => ⟨a, rfl, rfl, fun i y hy => ?_⟩⟩
    rw [List.getElem?_map, Option.map_eq_some_iff] at hy
    obtain ⟨z, hz1, rfl⟩ := hy
    have hil : i < len := by
      have := (List.getElem?_eq_some_iff.1 hz1).1
      rw [List.length_take] at this
      omega
    rw [List.getElem?_take_of_lt hil] at hz1
    have hw := hwf z (List.mem_of_getElem? hz1)
    have hr : 0 ≤ z ∧ z ≤ 255 := by simpa [Lit.wf, IntKind.min, IntKind.max, IntKind.signed, IntKind.bits] using hw
    rw [hS i (by omega), List.getD_eq_getElem?_getD, hz1]
    simp only [Option.getD_some, Option.some.injEq, Value.int.injEq, true_and]
    rw [UInt8.toNat_ofNat_of_lt' (by show z.toNat < 256; omega)]
    omega
end
theorem lo : laidOutB Tryz.prog = true := by kernel_rfl
theorem r26 : Tryz.prog.readableRec 26 = true := by kernel_rfl
theorem r27 : Tryz.prog.readableRec 27 = true := by kernel_rfl
theorem s26 : (26 : Nat) < Tryz.prog.types.size := of_decide_eq_true (by kernel_rfl)
theorem s27 : (27 : Nat) < Tryz.prog.types.size := of_decide_eq_true (by kernel_rfl)
theorem cells9 : Tryz.prog.cellsOf 9 = 1 := by kernel_rfl
theorem cells26 : Tryz.prog.cellsOf 26 = 7 := by kernel_rfl
set_option maxRecDepth 100000 in
theorem contract (H : Type) (enc : TypeId × Value → H) (W : World) (base : Nat) (args : Array Value) (ds gs : List (DataW H)) (before : List MemPlace)
    (hval : ∀ (j : Nat) t v, Tryz.f7.params[j]? = some t → args[j]? = some v → Value.okWide Tryz.prog W .any base t v)
    (hW : DataW.Whole enc Tryz.prog Tryz.f7.params.toList Rows.fnConfVariableSpec.vars false W args.toList ds gs before) (hL : laidMet Tryz.prog Rows.fnConfVariableRow.laid W) :
    Calls Tryz.prog 7 args W fun e W' => ∃ v, e = .returned v ∧ Rows.fnConfVariableSpec.post enc Tryz.prog Tryz.f7 false true false false W args v W' := by
  have hW' := hW
  obtain ⟨p, q, hA0, hV, rfl, hfz, hnd⟩ := hW
  have hA : DataW.TrodAll enc Tryz.prog W 0 (fun _ => true) true Tryz.f7.params.toList args.toList ds p := hA0
  rw [Tryz.params7] at hA hval
  obtain ⟨v0, vs0, d0, ds0, p0, q0, hargs, rfl, rfl, h0, r0⟩ := trodAll_cons hA
  obtain ⟨v1, vs1, d1, ds1, p1, q1, rfl, rfl, rfl, h1, r1⟩ := trodAll_cons r0
  obtain ⟨rfl, rfl, rfl⟩ := trodAll_nil r1
  obtain rfl : args = #[v0, v1] := by cases args; simp_all
  obtain ⟨rfl, rfl⟩ := trodVars_none hV
  clear hA0
  simp only [List.append_nil] at hW'
  have hlt0 : ∀ x ∈ p0, x.block < W.heap.size := fun x hx => hW'.lt x (by simp [hx])
  have hlt1 : ∀ x ∈ p1, x.block < W.heap.size := fun x hx => hW'.lt x (by simp [hx])
  have h0k := h0
  have h1k := h1
  obtain ⟨c0, c1, c2, c3, c4, c5, c6, y0, y1, y2, y3, y4, y5, y6, n, rfl, t0, t1, t2, t3, t4, t5, t6⟩ := open_agg7 Tryz.underlying26 (by kernel_rfl) cells26 (hval 0 26 v0 rfl rfl) h0
  obtain ⟨k, e0, -, -⟩ := DataW.trod_int Tryz.underlying3 t0
  obtain ⟨m, e1, -, w1⟩ := DataW.trod_int Tryz.underlying2 t1
  obtain ⟨f, e2⟩ := trod_flt Tryz.underlying22 t2
  obtain ⟨b, e3, -⟩ := DataW.trod_bool Tryz.underlying4 t3
  obtain ⟨s, e4, -, ws⟩ := DataW.trod_string Tryz.underlying9 t4
  obtain ⟨a1, m1, k1, e5, wm, hk⟩ := keys_in Tryz.underlying23 Tryz.underlying9 cells9 t5
  obtain ⟨a2, m2, k2, e6, wl⟩ := trod_sl Tryz.underlying24 t6
  simp only [List.cons.injEq, and_true] at e0 e1 e2 e3 e4 e5 e6
  subst e0 e1 e2 e3 e4 e5 e6
  obtain ⟨sa, sl, sc, rfl⟩ := okWide_slice Tryz.underlying27 (hval 1 27 v1 rfl rfl)
  obtain ⟨fuel, hf1⟩ := h1
  obtain ⟨ga, gc, style, e7, hsl, hst⟩ := style_in Tryz.underlying27 Tryz.underlying5 cells5 hf1
  simp only [Value.cells, List.cons.injEq, and_true, Value.slice.injEq] at e7
  obtain ⟨rfl, rfl, rfl⟩ := e7
  have u1 : -9223372036854775808 ≤ m ∧ m ≤ 9223372036854775807 := by simpa [Lit.wf, IntKind.min, IntKind.max, IntKind.signed, IntKind.bits] using w1
  refine (Go.Cf.Variable_below W k m f b s a1 a2 m1 k1 m2 k2 u1.1 u1.2 wm hk ws wl sa sc style hst hsl (table hL)).mono fun e W' ⟨he, hg⟩ => ?_
  subst he
  exact ⟨_, rfl, _, _, _, [], p0 ++ (p1 ++ []), [], hW', trodAll_mk1 (shut_bool Tryz.underlying4 _), trodAll_cons_mk (Below.trod lo r26 s26 h0k hg hlt0) (trodAll_cons_mk (Below.trod lo r27 s27 h1k hg hlt1) trodAll_mk0), rfl, hg.frame _, fun h => by cases h⟩
set_option maxRecDepth 100000 in
theorem witness_row (os : Os) {H : Type} (enc : TypeId × Value → H) :
    (OpenSpec.ofChange Rows.fnConfVariableSpec).preRow enc Tryz.prog Tryz.f7 Rows.fnConfVariableRow.domain false Rows.fnConfVariableRow.laid ((World.laidAll Tryz.prog os Rows.fnConfVariableRow.laid).forCall (fun _ _ => 0) ⟨#[], #[.agg #[.int .i64 0, .int .i64 0, .float .f64 0, .bool false, .string { data := #[] }, .slice none 0 0, .slice none 0 0], .slice none 0 0], []⟩).memory #[.agg #[.int .i64 0, .int .i64 0, .float .f64 0, .bool false, .string { data := #[] }, .slice none 0 0, .slice none 0 0], .slice none 0 0] := by
  have hw : (DataW.whole enc Tryz.prog ((World.laidAll Tryz.prog os Rows.fnConfVariableRow.laid).forCall (fun _ _ => 0) ⟨#[], #[.agg #[.int .i64 0, .int .i64 0, .float .f64 0, .bool false, .string { data := #[] }, .slice none 0 0, .slice none 0 0], .slice none 0 0], []⟩).memory Tryz.f7.params.toList Rows.fnConfVariableSpec.vars false #[Value.agg #[.int .i64 0, .int .i64 0, .float .f64 0, .bool false, .string { data := #[] }, .slice none 0 0, .slice none 0 0], .slice none 0 0].toList 8).map (fun x => (x.1, x.2.1)) =
      some ([.agg [.lit (.int .i64 0), .lit (.int .i64 0), .lit (.float .f64 0), .lit (.bool false), .lit (.string []), .nil, .nil], .nil], []) := by kernel_rfl
  obtain ⟨⟨x1, x2, x3⟩, hx, hx1⟩ := Option.map_eq_some_iff.1 hw
  simp only [Prod.mk.injEq] at hx1
  obtain ⟨rfl, rfl⟩ := hx1
  exact OpenSpec.preRow_of_cond 8 hx (by kernel_rfl) (fun k hk => by cases hk) (by kernel_rfl) (laidMet_laidAll _ (by kernel_rfl) (by kernel_rfl))
set_option maxRecDepth 100000 in
theorem lifted (os : Os) (started : os.Started) (H : Type) (enc : TypeId × Value → H) (F : Stop.Interp) :
    ReturnsInHanded {} Tryz.checked os 7 .any ((OpenSpec.ofChange Rows.fnConfVariableSpec).preRow enc Tryz.prog Tryz.f7 Rows.fnConfVariableRow.domain false Rows.fnConfVariableRow.laid) (((OpenSpec.ofChange Rows.fnConfVariableSpec).at F).post enc Tryz.prog Tryz.f7 false true false false) := by
  refine returnsInHanded_of_row (C := Tryz.checked) (s := OpenSpec.ofChange Rows.fnConfVariableSpec) own started (by kernel_rfl) Tryz.func7
    (witness_row_atRef (enc := enc) (C := Tryz.checked) false (World.laidAll Tryz.prog os Rows.fnConfVariableRow.laid) #[.agg #[.int .i64 0, .int .i64 0, .float .f64 0, .bool false, .string { data := #[] }, .slice none 0 0, .slice none 0 0], .slice none 0 0] rfl (by kernel_rfl) (by kernel_rfl) (by kernel_rfl) (witness_row os enc)) ?_
  intro W base args ds gs before hval hW _ _ _ hL _ _
  exact contract H enc W base args ds gs before hval hW hL
theorem said : Rows.FnConfVariableSaid :=
  OpenClaim.holds_of_cond 7 Tryz.f7 rfl rfl rfl rfl rfl rfl rfl ⟨rfl, rfl, rfl, rfl, rfl⟩ rfl rfl rfl rfl rfl (by kernel_rfl) Tryz.func7 (by kernel_rfl)
    (of_decide_eq_true (by kernel_rfl)) (by unfold Func.isWrapper; first | (rw [if_pos (by decide +kernel)]; kernel_rfl) | (rw [if_neg (by decide +kernel)]; exact ⟨rfl, rfl⟩))
    (fun os started H enc _ F => by rw [OpenClaim.pre_eq_preRow]; exact lifted os started H enc F)
/-- No parameter wants a stand-in; the program's looks are as the card has them. -/
theorem plain (f : FuncId) (fn : Func) (hf : Tryz.pinned.checked.prog.funcNamed "pub-streamkeep/laws.FnConfVariable" = some f) (hfn : Tryz.pinned.checked.prog.funcs[f]? = some fn) :
    true = Tryz.pinned.checked.prog.looks [] ∧ ∀ (j : Nat) t, fn.params[j]? = some t → Tryz.pinned.checked.prog.wantsStandIn t = false := by
  obtain rfl : f = 7 := Option.some.inj ((show Tryz.prog.funcNamed "pub-streamkeep/laws.FnConfVariable" = some 7 by kernel_rfl).symm.trans hf) |>.symm
  obtain rfl : fn = Tryz.f7 := (Option.some.inj (Tryz.func7.symm.trans hfn)).symm
  refine ⟨by kernel_rfl, fun j t ht => ?_⟩
  rw [Tryz.params7] at ht
  have hm : t ∈ [26, 27] := by simpa using Array.mem_of_getElem? ht
  have hall : ([26, 27].all fun u => !Tryz.prog.wantsStandIn u) = true := by kernel_rfl
  exact (show Tryz.prog.wantsStandIn t = false by simpa using List.all_eq_true.1 hall t hm)
/-- THE CARD. -/
theorem card : Rows.FnConfVariableCardSaid :=
  Claim7.holds_tied_plain_at .later [] _ _ _ _ said (fun _ h => by cases h) (by kernel_rfl) (fun _ h => by cases h) fnConfVariable_row_tie rfl ⟨rfl, rfl⟩ (by kernel_rfl) rfl plain (by kernel_rfl)
#print axioms card
end Go.Proofs.YtackodbeohaidaaGreatDoor.fnConfVariable
