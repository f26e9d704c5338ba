/- laws.FnWrong returns true at every dictionary, every text and every mode, and the arguments read as before: the given card, whole. Conditions: none but the given row's own (the twelve listed variables hold what their text lays). -/
import Derived.Test.YtoliamijgmifkaaGreatDoorFrame
import Derived.Test.YtoliamijgmifkaaGreatDoorW32
import Derived.Test.YtoliamijgmifkaaGreatDoorFactsFnWrong
set_option linter.all false
namespace Go.Proofs.YtoliamijgmifkaaGreatDoor
open Go.ChangeShapes Go.WideShapes Go.ChangeAt Go.RowKit Go.Shelf
open Go.ChangeMaps (open_string shut_string)

/-- An empty dictionary's cells. -/
def emptyDict : Value := .agg #[.slice none 0 0, .int .i64 0, .int .i64 0, .slice none 0 0, .slice none 0 0, .slice none 0 0, .slice none 0 0, .slice none 0 0, .slice none 0 0, .bool false, .slice none 0 0]
def wrongArgs : Array Value := #[emptyDict, .string .empty, .int .i64 0]
theorem wrong_reads (os : Os) {H : Type} (enc : TypeId × Value → H) :
    (OpenSpec.ofChange Rows.fnWrongSpec).preRow enc Tryz.prog Tryz.f8 Rows.fnWrongRow.domain false Rows.fnWrongRow.laid ((laidWorld os).forCall (fun _ _ => 0) ⟨#[], wrongArgs, []⟩).memory wrongArgs := by
  have hw : (DataW.whole enc Tryz.prog ((laidWorld os).forCall (fun _ _ => 0) ⟨#[], wrongArgs, []⟩).memory Tryz.f8.params.toList Rows.fnWrongSpec.vars false wrongArgs.toList 12).map (fun x => (x.1, x.2.1)) =
      some ([.agg [.nil, .lit (.int .i64 0), .lit (.int .i64 0), .nil, .nil, .nil, .nil, .nil, .nil, .lit (.bool false), .nil], .lit (.string []), .lit (.int .i64 0)], []) := by kernel_rfl
  obtain ⟨⟨x1, x2, x3⟩, hx, hx1⟩ := Option.map_eq_some_iff.1 hw
  simp only [Prod.mk.injEq] at hx1
  obtain ⟨rfl, rfl⟩ := hx1
  exact OpenSpec.preRow_of_cond 12 hx (by kernel_rfl) (fun k hk => by cases hk) (by kernel_rfl) (laid_met os _)

set_option maxRecDepth 100000 in
theorem wrong_lifted (os : Os) (started : os.Started) (H : Type) (enc : TypeId × Value → H) (F : Stop.Interp) :
    ReturnsInHanded {} Tryz.checked os 8 .any ((OpenSpec.ofChange Rows.fnWrongSpec).preRow enc Tryz.prog Tryz.f8 Rows.fnWrongRow.domain false Rows.fnWrongRow.laid) (((OpenSpec.ofChange Rows.fnWrongSpec).at F).post enc Tryz.prog Tryz.f8 false true false false) := by
  refine returnsInHanded_of_row (C := Tryz.checked) (s := OpenSpec.ofChange Rows.fnWrongSpec) own_knob started (by kernel_rfl) Tryz.func8
    (witness_row_atRef (enc := enc) (C := Tryz.checked) false (laidWorld os) wrongArgs rfl (by kernel_rfl) (by kernel_rfl) (by kernel_rfl) (wrong_reads os enc)) ?_
  intro W base args ds gs before hval0 hW _ _ _ hL _ _
  have hval : ∀ (j : Nat) t v, Tryz.f8.params[j]? = some t → args[j]? = some v → Value.okWide Tryz.prog W .any base t v := hval0
  have hU : U8 W := tabs_of hL
  have hW' := hW
  obtain ⟨p, q, hA0, hV0, rfl, _, _⟩ := hW
  have hA : DataW.TrodAll enc Tryz.prog W 0 (fun _ => true) true Tryz.f8.params.toList args.toList ds p := hA0
  rw [Tryz.params8] at hA hval
  obtain ⟨v0, v1, v2, d0, d1, d2, p0, p1, p2, rfl, rfl, rfl, h0, h1, h2⟩ := trodAll_three hA
  obtain ⟨rfl, rfl⟩ := trodVars_none hV0
  obtain ⟨s, rfl, rfl, rfl, ws⟩ := open_string Tryz.underlying9 (hval 1 9 v1 rfl rfl) h1
  obtain ⟨m, rfl, rfl, rfl, wm⟩ := open_int Tryz.underlying3 (hval 2 3 v2 rfl rfl) h2
  obtain ⟨cs, rfl, _⟩ := okWide_struct Tryz.underlying30 (hval 0 30 v0 rfl rfl)
  clear hA0 hV0 hval0
  simp only [List.append_nil] at hW'
  have hlt : ∀ x ∈ p0, x.block < W.heap.size := fun x hx => by simpa using hW'.lt x (by simpa using hx)
  obtain ⟨fuel, hf⟩ := h0
  obtain ⟨d, hd⟩ := rd_dict enc W (fun _ => true) fuel cs.toList _ hf
  have hs : s.size ≤ 9223372036854775807 := by unfold maxLen at ws; omega
  refine (fnWrong_any d cs.toList (fun _ => True) s m W hd hs hU).mono ?_
  rintro e W' ⟨rfl, ex⟩
  have bel := Fr.below ex
  refine ⟨_, rfl, _, _, _, [], p0 ++ ([] ++ []), [], hW', ?_, ?_, ?_, bel.frame _, fun h => by cases h⟩
  · exact trodAll_mk1 (shut_bool Tryz.underlying4 _)
  · exact trodAll_mk3 (Below.trod laid_out (by kernel_rfl) (of_decide_eq_true (by kernel_rfl)) ⟨fuel, hf⟩ bel hlt) (shut_string Tryz.underlying9 ws) (shut_int Tryz.underlying3 wm)
  · rfl

theorem fnWrong_said : Rows.FnWrongSaid :=
  OpenClaim.holds_of_cond 8 Tryz.f8 rfl rfl rfl rfl rfl rfl rfl ⟨rfl, rfl, rfl, rfl, rfl⟩ rfl rfl rfl rfl rfl (by kernel_rfl) Tryz.func8 fnWrong_closed
    (of_decide_eq_true (by kernel_rfl)) (by unfold Func.isWrapper; first | (rw [if_pos (by decide +kernel)]; kernel_rfl) | (rw [if_neg (by decide +kernel)]; exact ⟨rfl, rfl⟩))
    (fun os started H enc _ F => by rw [OpenClaim.pre_eq_preRow]; exact wrong_lifted os started H enc F)

theorem wrong_plain (f : FuncId) (fn : Func) (hf : Tryz.pinned.checked.prog.funcNamed "pub-kaeriten/laws.FnWrong" = some f) (hfn : Tryz.pinned.checked.prog.funcs[f]? = some fn) :
    false = Tryz.pinned.checked.prog.looks [] ∧ ∀ (j : Nat) t, fn.params[j]? = some t → Tryz.pinned.checked.prog.wantsStandIn t = false := by
  obtain rfl : f = 8 := Option.some.inj ((show Tryz.prog.funcNamed "pub-kaeriten/laws.FnWrong" = some 8 by kernel_rfl).symm.trans hf) |>.symm
  obtain rfl : fn = Tryz.f8 := (Option.some.inj (Tryz.func8.symm.trans hfn)).symm
  refine ⟨by kernel_rfl, fun j t ht => ?_⟩
  rw [Tryz.params8] at ht
  have : t = 30 ∨ t = 9 ∨ t = 3 := by simpa using Array.mem_of_getElem? ht
  rcases this with rfl | rfl | rfl
  · exact (show Tryz.prog.wantsStandIn 30 = false by kernel_rfl)
  · exact (show Tryz.prog.wantsStandIn 9 = false by kernel_rfl)
  · exact (show Tryz.prog.wantsStandIn 3 = false by kernel_rfl)

theorem fnWrong_card : Rows.FnWrongCardSaid :=
  Claim7.holds_tied_plain_at .later [] _ _ _ _ fnWrong_said (fun _ h => by cases h) (by kernel_rfl) (fun _ h => by cases h) fnWrong_row_tie rfl ⟨rfl, rfl⟩ (by kernel_rfl) rfl wrong_plain (by kernel_rfl)
#print axioms fnWrong_card
end Go.Proofs.YtoliamijgmifkaaGreatDoor
