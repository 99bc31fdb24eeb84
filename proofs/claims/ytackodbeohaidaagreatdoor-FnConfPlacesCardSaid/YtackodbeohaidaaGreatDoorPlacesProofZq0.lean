/-
  FnConfPlaces answers true at every value and every spelling, and its arguments read afterwards as they did; conditions: the row's listed package-level variables hold what the program's text lays.
-/
import Derived.Test.YtackodbeohaidaaGreatDoorCards
import Derived.Test.YtackodbeohaidaaGreatDoorTie
import Derived.Test.YtackodbeohaidaaGreatDoorZq022
import Derived.WalkKit
import Derived.ProofKit
import Derived.OpenShut
import Derived.Deep.DeepHandedRow
import Derived.Deep.DeepWitnessRowRef
import Derived.Lib.LaidTab
import Derived.Lay
import Derived.Deep.Strs
import Derived.Laws.Cover2
import Derived.Carry
import Derived.Lib.SmallJoins
namespace Go.Proofs.YtackodbeohaidaaGreatDoor.fnConfPlaces
open Go.ChangeShapes Go.WideShapes Go.ChangeAt Go.RowKit
theorem own : ownKnob Tryz.prog.godebug = none := by kernel_rfl
theorem gTab : Tryz.prog.globalNamed "strings.asciiSpace" = some 1 := by kernel_rfl
theorem gTabType : (Tryz.prog.globals[1]?).map (·.type) = some 161 := by kernel_rfl
theorem cells161 : Tryz.prog.cellsOf 161 = 256 := by kernel_rfl
theorem cells5 : Tryz.prog.cellsOf 5 = 1 := by kernel_rfl
theorem tabEq : (Rows.laid_strings_asciiSpace : DataW Unit) = Lib.tabData .u8 Lib.asciiSpaceTab := by kernel_rfl
theorem laid_tail {P : Program} {w : World} {x : String × DataW Unit} {r : List (String × DataW Unit)} (h : laidMet P (x :: r) w) : laidMet P r w := by
  obtain ⟨ps,hv,hn,hf⟩ := h;obtain ⟨g,t,cs,fuel,p,q,_,_,_,_,hq,rfl⟩ := hv;exact ⟨q,hq,(List.nodup_append.1 hn).2.1,fun b off hm => hf b off (List.mem_append_right _ hm)⟩
/-- What the row's list gives: the table of strings. -/
theorem table {W : World} (h : laidMet Tryz.prog Rows.fnConfPlacesRow.laid W) : Lib.TabIs Tryz.prog W "strings.asciiSpace" .u8 Lib.asciiSpaceTab := by
  have h1 : laidMet Tryz.prog ((("strings.asciiSpace",Lib.tabData .u8 Lib.asciiSpaceTab) : String × DataW Unit) :: (Rows.fnConfPlacesRow.laid.drop 3)) W := by
    have h2 : laidMet Tryz.prog (Rows.fnConfPlacesRow.laid.drop 2) W := laid_tail (laid_tail h);rw [← tabEq];exact h2
  exact Lib.tabIs_of_head gTab gTabType Tryz.underlying161 Tryz.underlying5 cells5 cells161 h1
open Go.Joins Go.Deep
theorem lo : laidOutB Tryz.prog = true := by kernel_rfl
theorem r26 : Tryz.prog.readableRec 26 = true := by kernel_rfl
theorem r27 : Tryz.prog.readableRec 27 = true := by kernel_rfl
theorem s26 : (26 : Nat) < Tryz.prog.types.size := of_decide_eq_true (by kernel_rfl)
theorem s27 : (27 : Nat) < Tryz.prog.types.size := of_decide_eq_true (by kernel_rfl)
theorem cells9 : Tryz.prog.cellsOf 9 = 1 := by kernel_rfl
theorem cells26 : Tryz.prog.cellsOf 26 = 7 := by kernel_rfl
set_option maxRecDepth 100000 in
theorem contract (H : Type) (enc : TypeId × Value → H) (W : World) (base : Nat) (args : Array Value) (ds gs : List (DataW H)) (before : List MemPlace)
    (hval : ∀ (j : Nat) t v,Tryz.f9.params[j]? = some t → args[j]? = some v → Value.okWide Tryz.prog W .any base t v)
    (hW : DataW.Whole enc Tryz.prog Tryz.f9.params.toList Rows.fnConfPlacesSpec.vars false W args.toList ds gs before) (hL : laidMet Tryz.prog Rows.fnConfPlacesRow.laid W) :
    Calls Tryz.prog 9 args W fun e W' => ∃ v,e = .returned v ∧ Rows.fnConfPlacesSpec.post enc Tryz.prog Tryz.f9 false true false false W args v W' := by
  have hW' := hW;obtain ⟨p,q,hA0,hV,rfl,hfz,hnd⟩ := hW;have hA : DataW.TrodAll enc Tryz.prog W 0 (fun _ => true) true Tryz.f9.params.toList args.toList ds p := hA0;rw [Tryz.params9] at hA hval;obtain ⟨v0,vs0,d0,ds0,p0,q0,hargs,rfl,rfl,h0,r0⟩ := trodAll_cons hA;obtain ⟨v1,vs1,d1,ds1,p1,q1,rfl,rfl,rfl,h1,r1⟩ := trodAll_cons r0;obtain ⟨rfl,rfl,rfl⟩ := trodAll_nil r1;obtain rfl : args = #[v0,v1] := by cases args;simp_all
  obtain ⟨rfl,rfl⟩ := trodVars_none hV;clear hA0;simp only [List.append_nil] at hW';have hlt0 : ∀ x ∈ p0,x.block < W.heap.size := fun x hx => hW'.lt x (by simp [hx])
  have hlt1 : ∀ x ∈ p1,x.block < W.heap.size := fun x hx => hW'.lt x (by simp [hx])
  have h0k := h0;have h1k := h1;obtain ⟨cs0,rfl,_⟩ := okWide_struct Tryz.underlying26 (hval 0 26 v0 rfl rfl);obtain ⟨fuel0,hf0⟩ := h0;have hnd0 := Go.Cf.ndr_of 6 fuel0 hf0;have ec : (Value.agg cs0).cells.toList.toArray = cs0 := by simp [Value.cells]
  obtain ⟨sa,sl,sc,rfl⟩ := okWide_slice Tryz.underlying27 (hval 1 27 v1 rfl rfl);obtain ⟨fuel,hf1⟩ := h1;obtain ⟨ga,gc,style,e7,hsl,hst⟩ := Go.Cf.style_of Tryz.underlying27 Tryz.underlying5 cells5 hf1;simp only [Value.cells,List.cons.injEq,and_true,Value.slice.injEq] at e7;obtain ⟨rfl,rfl,rfl⟩ := e7;rw [ec] at hnd0;refine (Go.Cf.FnConfPlaces_below hnd0 hst hsl ⟨table hL,fun _ _ => rfl⟩).mono fun e W' ⟨he,hg⟩ => ?_
  subst he;exact ⟨_,rfl,_,_,_,[],p0 ++ (p1 ++ []),[],hW',trodAll_mk1 (shut_bool Tryz.underlying4 _),trodAll_cons_mk (Below.trod lo r26 s26 h0k hg hlt0) (trodAll_cons_mk (Below.trod lo r27 s27 h1k hg hlt1) trodAll_mk0),rfl,hg.frame _,fun h => by cases h⟩
set_option maxRecDepth 100000 in
theorem witness_row (os : Os) {H : Type} (enc : TypeId × Value → H) :
    (OpenSpec.ofChange Rows.fnConfPlacesSpec).preRow enc Tryz.prog Tryz.f9 Rows.fnConfPlacesRow.domain false Rows.fnConfPlacesRow.laid ((World.laidAll Tryz.prog os Rows.fnConfPlacesRow.laid).forCall (fun _ _ => 0) ⟨#[],#[.agg #[.int .i64 0,.int .i64 0,.float .f64 0,.bool false,.string { data := #[] },.slice none 0 0,.slice none 0 0],.slice none 0 0],[]⟩).memory #[.agg #[.int .i64 0,.int .i64 0,.float .f64 0,.bool false,.string { data := #[] },.slice none 0 0,.slice none 0 0],.slice none 0 0] := by
  have hw : (DataW.whole enc Tryz.prog ((World.laidAll Tryz.prog os Rows.fnConfPlacesRow.laid).forCall (fun _ _ => 0) ⟨#[],#[.agg #[.int .i64 0,.int .i64 0,.float .f64 0,.bool false,.string { data := #[] },.slice none 0 0,.slice none 0 0],.slice none 0 0],[]⟩).memory Tryz.f9.params.toList Rows.fnConfPlacesSpec.vars false #[Value.agg #[.int .i64 0,.int .i64 0,.float .f64 0,.bool false,.string { data := #[] },.slice none 0 0,.slice none 0 0],.slice none 0 0].toList 8).map (fun x => (x.1,x.2.1)) =
      some ([.agg [.lit (.int .i64 0),.lit (.int .i64 0),.lit (.float .f64 0),.lit (.bool false),.lit (.string []),.nil,.nil],.nil],[]) := by kernel_rfl
  obtain ⟨⟨x1,x2,x3⟩,hx,hx1⟩ := Option.map_eq_some_iff.1 hw;simp only [Prod.mk.injEq] at hx1;obtain ⟨rfl,rfl⟩ := hx1;exact OpenSpec.preRow_of_cond 8 hx (by kernel_rfl) (fun k hk => by cases hk) (by kernel_rfl) (laidMet_laidAll _ (by kernel_rfl) (by kernel_rfl))
set_option maxRecDepth 100000 in
theorem lifted (os : Os) (started : os.Started) (H : Type) (enc : TypeId × Value → H) (F : Stop.Interp) :
    ReturnsInHanded {} Tryz.checked os 9 .any ((OpenSpec.ofChange Rows.fnConfPlacesSpec).preRow enc Tryz.prog Tryz.f9 Rows.fnConfPlacesRow.domain false Rows.fnConfPlacesRow.laid) (((OpenSpec.ofChange Rows.fnConfPlacesSpec).at F).post enc Tryz.prog Tryz.f9 false true false false) := by
  refine returnsInHanded_of_row (C := Tryz.checked) (s := OpenSpec.ofChange Rows.fnConfPlacesSpec) own started (by kernel_rfl) Tryz.func9
    (witness_row_atRef (enc := enc) (C := Tryz.checked) false (World.laidAll Tryz.prog os Rows.fnConfPlacesRow.laid) #[.agg #[.int .i64 0,.int .i64 0,.float .f64 0,.bool false,.string { data := #[] },.slice none 0 0,.slice none 0 0],.slice none 0 0] rfl (by kernel_rfl) (by kernel_rfl) (by kernel_rfl) (witness_row os enc)) ?_
  intro W base args ds gs before hval hW _ _ _ hL _ _;exact contract H enc W base args ds gs before hval hW hL
theorem said : Rows.FnConfPlacesSaid :=
  OpenClaim.holds_of_cond 9 Tryz.f9 rfl rfl rfl rfl rfl rfl rfl ⟨rfl,rfl,rfl,rfl,rfl⟩ rfl rfl rfl rfl rfl (by kernel_rfl) Tryz.func9 (by kernel_rfl)
    (of_decide_eq_true (by kernel_rfl)) (by unfold Func.isWrapper;first | (rw [if_pos (by decide +kernel)];kernel_rfl) | (rw [if_neg (by decide +kernel)];exact ⟨rfl,rfl⟩))
    (fun os started H enc _ F => by rw [OpenClaim.pre_eq_preRow];exact lifted os started H enc F)
/-- No parameter wants a stand-in;the program's looks are as the card has them. -/
theorem plain (f : FuncId) (fn : Func) (hf : Tryz.pinned.checked.prog.funcNamed "pub-streamkeep/laws.FnConfPlaces" = some f) (hfn : Tryz.pinned.checked.prog.funcs[f]? = some fn) :
    true = Tryz.pinned.checked.prog.looks [] ∧ ∀ (j : Nat) t,fn.params[j]? = some t → Tryz.pinned.checked.prog.wantsStandIn t = false := by
  obtain rfl : f = 9 := Option.some.inj ((show Tryz.prog.funcNamed "pub-streamkeep/laws.FnConfPlaces" = some 9 by kernel_rfl).symm.trans hf) |>.symm
  obtain rfl : fn = Tryz.f9 := (Option.some.inj (Tryz.func9.symm.trans hfn)).symm;refine ⟨by kernel_rfl,fun j t ht => ?_⟩;rw [Tryz.params9] at ht;have hm : t ∈ [26,27] := by simpa using Array.mem_of_getElem? ht
  have hall : ([26,27].all fun u => !Tryz.prog.wantsStandIn u) = true := by kernel_rfl
  exact (show Tryz.prog.wantsStandIn t = false by simpa using List.all_eq_true.1 hall t hm)
/-- THE CARD. -/
theorem card : Rows.FnConfPlacesCardSaid :=
  Claim7.holds_tied_plain_at .later [] _ _ _ _ said (fun _ h => by cases h) (by kernel_rfl) (fun _ h => by cases h) fnConfPlaces_row_tie rfl ⟨rfl,rfl⟩ (by kernel_rfl) rfl plain (by kernel_rfl)
#print axioms card
end Go.Proofs.YtackodbeohaidaaGreatDoor.fnConfPlaces
