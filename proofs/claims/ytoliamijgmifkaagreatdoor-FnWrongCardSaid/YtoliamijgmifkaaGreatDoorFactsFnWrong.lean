/- The row of laws.FnWrong: each closed fact that its statement asks, a theorem each. -/
import Derived.Test.YtoliamijgmifkaaGreatDoorCards
import Derived.ProofKit
import Derived.JoinedCond
set_option linter.all false
namespace Go.Proofs.YtoliamijgmifkaaGreatDoor
open Go
theorem fnWrong_and {a b : Bool} (h : a = true) (k : b = true) : (a && b) = true := by rw [h, k]; rfl
theorem fnWrong_fact0 : (Rows.fnWrongRow.wf (OpenSpec.ofChange (OpenSpec.ofChange Rows.fnWrongSpec).bare)) = true := by kernel_rfl
theorem fnWrong_fact1 : (laidOutB Tryz.pinned.checked.prog) = true := by kernel_rfl
theorem fnWrong_fact2 : (mapsRowed Tryz.pinned.checked.prog) = true := by kernel_rfl
theorem fnWrong_fact3 : (Tryz.f8.params.all (Tryz.pinned.checked.prog.readableRec ·)) = true := by kernel_rfl
theorem fnWrong_fact4 : (namedTie Tryz.pinned.checked.prog Rows.fnWrongRow.named (OpenSpec.ofChange Rows.fnWrongSpec).bare.vars) = true := by kernel_rfl
theorem fnWrong_fact5 : ((Rows.fnWrongRow.stops == [])) = true := by kernel_rfl
theorem fnWrong_fact6 : ((Tryz.pinned.checked.prog.stops == [])) = true := by kernel_rfl
theorem fnWrong_fact7 : ((Rows.fnWrongRow.knobs == [])) = true := by kernel_rfl
theorem fnWrong_fact8 : ((Tryz.pinned.checked.prog.stopKnobs == [])) = true := by kernel_rfl
theorem fnWrong_fact9 : ((Rows.fnWrongRow.inPlace == Tryz.pinned.checked.prog.inPlace 8)) = true := by kernel_rfl
theorem fnWrong_fact10 : ((Rows.fnWrongRow.unfollowed == Tryz.pinned.checked.prog.unfollowed 8)) = true := by kernel_rfl
theorem fnWrong_fact11 : ((Rows.fnWrongRow.recurses == Tryz.pinned.checked.prog.recurses 8)) = true := by kernel_rfl
theorem fnWrong_fact12 : ((Rows.fnWrongRow.named == Tryz.pinned.checked.prog.varsNamed 8)) = true := by kernel_rfl
theorem fnWrong_fact13 : ((Rows.fnWrongRow.maps == (Tryz.f8.params.toList ++ (OpenSpec.ofChange Rows.fnWrongSpec).bare.plain.varTypes Tryz.pinned.checked.prog).any (Tryz.pinned.checked.prog.mapsRec ·))) = true := by kernel_rfl
theorem fnWrong_fact14 : ((Rows.fnWrongRow.ifaces == (Tryz.f8.params.toList ++ (OpenSpec.ofChange Rows.fnWrongSpec).bare.plain.varTypes Tryz.pinned.checked.prog).any (Tryz.pinned.checked.prog.ifacesRec ·))) = true := by kernel_rfl
theorem fnWrong_fact15 : ((Rows.fnWrongRow.mapsOut == Tryz.pinned.checked.prog.mapsAmong Tryz.f8.resultTypes.toList)) = true := by kernel_rfl
theorem fnWrong_fact16 : ((Rows.fnWrongRow.loops == (Tryz.f8.params.toList ++ (OpenSpec.ofChange Rows.fnWrongSpec).bare.plain.varTypes Tryz.pinned.checked.prog).any (Tryz.pinned.checked.prog.loopsFrom ·))) = true := by kernel_rfl
theorem fnWrong_fact17 : ((Rows.fnWrongRow.wideKeys == (Tryz.f8.params.toList ++ (OpenSpec.ofChange Rows.fnWrongSpec).bare.plain.varTypes Tryz.pinned.checked.prog ++ Tryz.f8.resultTypes.toList).any (Tryz.pinned.checked.prog.wideKeysFrom ·))) = true := by kernel_rfl
theorem fnWrong_fact18 : ((OpenSpec.ofChange Rows.fnWrongSpec).bare.vars.all (Tryz.pinned.checked.prog.varReadable ·)) = true := by kernel_rfl
theorem fnWrong_fact19 : (Tryz.f8.resultTypes.all (fun t => Tryz.pinned.checked.prog.readableRec t && decide (t < Tryz.pinned.checked.prog.types.size))) = true := by kernel_rfl
theorem fnWrong_fact20 : ((Rows.fnWrongRow.ifacesOut == Tryz.f8.resultTypes.toList.any (Tryz.pinned.checked.prog.ifacesRec ·))) = true := by kernel_rfl
theorem fnWrong_fact21 : ((Rows.fnWrongRow.loopsOut == Tryz.f8.resultTypes.toList.any (Tryz.pinned.checked.prog.loopsFrom ·))) = true := by kernel_rfl
theorem fnWrong_fact22 : ((Rows.fnWrongRow.plainKeys == Tryz.pinned.checked.prog.plainKeys)) = true := by kernel_rfl
theorem fnWrong_fact23 : (Rows.fnWrongRow.shortTexts.isNone) = true := by kernel_rfl
theorem fnWrong_fact24 : (Tryz.pinned.checked.prog.stopsHeard) = true := by kernel_rfl
theorem fnWrong_fact25 : (Tryz.pinned.checked.prog.mayEnter) = true := by kernel_rfl
theorem fnWrong_fact26 : ((Rows.fnWrongRow.lifted == Tryz.pinned.checked.prog.liftsFinal)) = true := by kernel_rfl
theorem fnWrong_fact27 : ((Tryz.pinned.checked.prog.make == some Rows.fnWrongRow.make)) = true := by kernel_rfl
theorem fnWrong_fact28 : ((Rows.fnWrongRow.kinds == (if Rows.fnWrongRow.domain.isEmpty then [] else Tryz.f8.params.toList.map fun t => match Tryz.pinned.checked.prog.underlying t with | some (.int k) => some k | _ => none))) = true := by kernel_rfl
theorem fnWrong_fact29 : ((Rows.fnWrongRow.pinned == Rows.fnWrongRow.pinnedBy)) = true := by kernel_rfl
theorem fnWrong_fact30 : ((Rows.fnWrongRow.veiled == (Tryz.f8.params.toList ++ (OpenSpec.ofChange Rows.fnWrongSpec).bare.plain.varTypes Tryz.pinned.checked.prog ++ Tryz.f8.resultTypes.toList).any (Tryz.pinned.checked.prog.veiledRec ·))) = true := by kernel_rfl
theorem fnWrong_fact31 : (Rows.fnWrongRow.veiledFits Tryz.pinned.checked.prog Tryz.f8.params.toList (Tryz.f8.params.toList ++ (OpenSpec.ofChange Rows.fnWrongSpec).bare.plain.varTypes Tryz.pinned.checked.prog ++ Tryz.f8.resultTypes.toList)) = true := by kernel_rfl
set_option maxRecDepth 100000 in
theorem fnWrong_closed : joinedFacts Tryz.pinned.checked.prog 8 Tryz.f8 (OpenSpec.ofChange Rows.fnWrongSpec).bare Rows.fnWrongRow = true := by
  delta joinedFacts
  exact fnWrong_and (fnWrong_and (fnWrong_and (fnWrong_and (fnWrong_and (fnWrong_and (fnWrong_and (fnWrong_and (fnWrong_and (fnWrong_and (fnWrong_and (fnWrong_and (fnWrong_and (fnWrong_and (fnWrong_and (fnWrong_and (fnWrong_and (fnWrong_and (fnWrong_and (fnWrong_and (fnWrong_and (fnWrong_and (fnWrong_and (fnWrong_and (fnWrong_and (fnWrong_and (fnWrong_and (fnWrong_and (fnWrong_and (fnWrong_and (fnWrong_and fnWrong_fact0 fnWrong_fact1) fnWrong_fact2) fnWrong_fact3) fnWrong_fact4) fnWrong_fact5) fnWrong_fact6) fnWrong_fact7) fnWrong_fact8) fnWrong_fact9) fnWrong_fact10) fnWrong_fact11) fnWrong_fact12) fnWrong_fact13) fnWrong_fact14) fnWrong_fact15) fnWrong_fact16) fnWrong_fact17) fnWrong_fact18) fnWrong_fact19) fnWrong_fact20) fnWrong_fact21) fnWrong_fact22) fnWrong_fact23) fnWrong_fact24) fnWrong_fact25) fnWrong_fact26) fnWrong_fact27) fnWrong_fact28) fnWrong_fact29) fnWrong_fact30) fnWrong_fact31
end Go.Proofs.YtoliamijgmifkaaGreatDoor
