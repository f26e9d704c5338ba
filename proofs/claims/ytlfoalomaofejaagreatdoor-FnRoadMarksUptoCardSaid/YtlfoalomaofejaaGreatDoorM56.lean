/- The row of laws.FnRoadMarks: e -/
import Derived.Test.YtlfoalomaofejaaGreatDoorCards
import Derived.ProofKit
import Derived.JoinedCond
set_option linter.all false
set_option maxRecDepth 100000
namespace Go.Proofs.YtlfoalomaofejaaGreatDoor
open Go
theorem Zc{a b:Bool}(h:a=true)(k:b=true):(a&&b)=true:=by rw[h,k];rfl
theorem Pc:(Rows.fnRoadMarksUptoRow.wf (OpenSpec.ofChange (Rows.OpenSpec.upto Rows.fnRoadMarksSpec).bare))=true:=by kernel_rfl
theorem Pb:(laidOutB Tryz.pinned.checked.prog)=true:=by kernel_rfl
theorem Pa:(mapsRowed Tryz.pinned.checked.prog)=true:=by kernel_rfl
theorem Q9:(Tryz.f7.params.all (Tryz.pinned.checked.prog.readableRec ·))=true:=by kernel_rfl
theorem Q8:(namedTie Tryz.pinned.checked.prog Rows.fnRoadMarksUptoRow.named (Rows.OpenSpec.upto Rows.fnRoadMarksSpec).bare.vars)=true:=by kernel_rfl
theorem Q7:((Rows.fnRoadMarksUptoRow.stops==[]))=true:=by kernel_rfl
theorem Q6:((Tryz.pinned.checked.prog.stops==[]))=true:=by kernel_rfl
theorem Q5:((Rows.fnRoadMarksUptoRow.knobs==[]))=true:=by kernel_rfl
theorem Q4:((Tryz.pinned.checked.prog.stopKnobs==[]))=true:=by kernel_rfl
theorem Q3:((Rows.fnRoadMarksUptoRow.inPlace==Tryz.pinned.checked.prog.inPlace 7))=true:=by kernel_rfl
theorem Qi:((Rows.fnRoadMarksUptoRow.unfollowed==Tryz.pinned.checked.prog.unfollowed 7))=true:=by kernel_rfl
theorem Qh:((Rows.fnRoadMarksUptoRow.recurses==Tryz.pinned.checked.prog.recurses 7))=true:=by kernel_rfl
theorem Qg:((Rows.fnRoadMarksUptoRow.named==Tryz.pinned.checked.prog.varsNamed 7))=true:=by kernel_rfl
theorem Qf:((Rows.fnRoadMarksUptoRow.maps==(Tryz.f7.params.toList++(Rows.OpenSpec.upto Rows.fnRoadMarksSpec).bare.plain.varTypes Tryz.pinned.checked.prog).any (Tryz.pinned.checked.prog.mapsRec ·)))=true:=by kernel_rfl
theorem Qe:((Rows.fnRoadMarksUptoRow.ifaces==(Tryz.f7.params.toList++(Rows.OpenSpec.upto Rows.fnRoadMarksSpec).bare.plain.varTypes Tryz.pinned.checked.prog).any (Tryz.pinned.checked.prog.ifacesRec ·)))=true:=by kernel_rfl
theorem Qd:((Rows.fnRoadMarksUptoRow.mapsOut==Tryz.pinned.checked.prog.mapsAmong Tryz.f7.resultTypes.toList))=true:=by kernel_rfl
theorem Qc:((Rows.fnRoadMarksUptoRow.loops==(Tryz.f7.params.toList++(Rows.OpenSpec.upto Rows.fnRoadMarksSpec).bare.plain.varTypes Tryz.pinned.checked.prog).any (Tryz.pinned.checked.prog.loopsFrom ·)))=true:=by kernel_rfl
theorem Qb:((Rows.fnRoadMarksUptoRow.wideKeys==(Tryz.f7.params.toList++(Rows.OpenSpec.upto Rows.fnRoadMarksSpec).bare.plain.varTypes Tryz.pinned.checked.prog++Tryz.f7.resultTypes.toList).any (Tryz.pinned.checked.prog.wideKeysFrom ·)))=true:=by kernel_rfl
theorem Qa:((Rows.OpenSpec.upto Rows.fnRoadMarksSpec).bare.vars.all (Tryz.pinned.checked.prog.varReadable ·))=true:=by kernel_rfl
theorem R8:(Tryz.f7.resultTypes.all (fun t=>Tryz.pinned.checked.prog.readableRec t&&decide (t<Tryz.pinned.checked.prog.types.size)))=true:=by kernel_rfl
theorem R7:((Rows.fnRoadMarksUptoRow.ifacesOut==Tryz.f7.resultTypes.toList.any (Tryz.pinned.checked.prog.ifacesRec ·)))=true:=by kernel_rfl
theorem R6:((Rows.fnRoadMarksUptoRow.loopsOut==Tryz.f7.resultTypes.toList.any (Tryz.pinned.checked.prog.loopsFrom ·)))=true:=by kernel_rfl
theorem R5:((Rows.fnRoadMarksUptoRow.plainKeys==Tryz.pinned.checked.prog.plainKeys))=true:=by kernel_rfl
theorem Rz:(Rows.fnRoadMarksUptoRow.shortTexts.isNone)=true:=by kernel_rfl
theorem Ry:(Tryz.pinned.checked.prog.stopsHeard)=true:=by kernel_rfl
theorem Rx:(Tryz.pinned.checked.prog.mayEnter)=true:=by kernel_rfl
theorem Rw:((Rows.fnRoadMarksUptoRow.lifted==Tryz.pinned.checked.prog.liftsFinal))=true:=by kernel_rfl
theorem Rv:((Tryz.pinned.checked.prog.make==some Rows.fnRoadMarksUptoRow.make))=true:=by kernel_rfl
theorem Ru:((Rows.fnRoadMarksUptoRow.kinds==(if Rows.fnRoadMarksUptoRow.domain.isEmpty then [] else Tryz.f7.params.toList.map fun t=>match Tryz.pinned.checked.prog.underlying t with|some (.int k)=>some k|_=>none)))=true:=by kernel_rfl
theorem Rt:((Rows.fnRoadMarksUptoRow.pinned==Rows.fnRoadMarksUptoRow.pinnedBy))=true:=by kernel_rfl
theorem Rs:((Rows.fnRoadMarksUptoRow.veiled==(Tryz.f7.params.toList++(Rows.OpenSpec.upto Rows.fnRoadMarksSpec).bare.plain.varTypes Tryz.pinned.checked.prog++Tryz.f7.resultTypes.toList).any (Tryz.pinned.checked.prog.veiledRec ·)))=true:=by kernel_rfl
theorem Rr:(Rows.fnRoadMarksUptoRow.veiledFits Tryz.pinned.checked.prog Tryz.f7.params.toList (Tryz.f7.params.toList++(Rows.OpenSpec.upto Rows.fnRoadMarksSpec).bare.plain.varTypes Tryz.pinned.checked.prog++Tryz.f7.resultTypes.toList))=true:=by kernel_rfl
theorem Qj:joinedFacts Tryz.pinned.checked.prog 7 Tryz.f7 (Rows.OpenSpec.upto Rows.fnRoadMarksSpec).bare Rows.fnRoadMarksUptoRow=true:=by
 delta joinedFacts;exact Zc (Zc (Zc (Zc (Zc (Zc (Zc (Zc (Zc (Zc (Zc (Zc (Zc (Zc (Zc (Zc (Zc (Zc (Zc (Zc (Zc (Zc (Zc (Zc (Zc (Zc (Zc (Zc (Zc (Zc (Zc Pc Pb) Pa) Q9) Q8) Q7) Q6) Q5) Q4) Q3) Qi) Qh) Qg) Qf) Qe) Qd) Qc) Qb) Qa) R8) R7) R6) R5) Rz) Ry) Rx) Rw) Rv) Ru) Rt) Rs) Rr
end Go.Proofs.YtlfoalomaofejaaGreatDoor
