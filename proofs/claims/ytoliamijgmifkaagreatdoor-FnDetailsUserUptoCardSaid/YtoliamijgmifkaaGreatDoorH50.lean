/- The row of laws.FnDetailsUser: -/
import Derived.Test.YtoliamijgmifkaaGreatDoorCards
import Derived.ProofKit
import Derived.JoinedCond
set_option linter.all false
set_option maxRecDepth 100000
namespace Go.Proofs.YtoliamijgmifkaaGreatDoor
open Go
theorem Zd{a b:Bool}(h:a=true)(k:b=true):(a&&b)=true:=by rw[h,k];rfl
theorem Ob:(Rows.fnDetailsUserUptoRow.wf (OpenSpec.ofChange (Rows.OpenSpec.upto Rows.fnDetailsUserSpec).bare))=true:=by kernel_rfl
theorem Oa:(laidOutB Tryz.pinned.checked.prog)=true:=by kernel_rfl
theorem P9:(mapsRowed Tryz.pinned.checked.prog)=true:=by kernel_rfl
theorem P8:(Tryz.f4.params.all (Tryz.pinned.checked.prog.readableRec ·))=true:=by kernel_rfl
theorem P7:(namedTie Tryz.pinned.checked.prog Rows.fnDetailsUserUptoRow.named (Rows.OpenSpec.upto Rows.fnDetailsUserSpec).bare.vars)=true:=by kernel_rfl
theorem P6:((Rows.fnDetailsUserUptoRow.stops==[]))=true:=by kernel_rfl
theorem P5:((Tryz.pinned.checked.prog.stops==[]))=true:=by kernel_rfl
theorem P4:((Rows.fnDetailsUserUptoRow.knobs==[]))=true:=by kernel_rfl
theorem P3:((Tryz.pinned.checked.prog.stopKnobs==[]))=true:=by kernel_rfl
theorem P1:((Rows.fnDetailsUserUptoRow.inPlace==Tryz.pinned.checked.prog.inPlace 4))=true:=by kernel_rfl
theorem Ql:((Rows.fnDetailsUserUptoRow.unfollowed==Tryz.pinned.checked.prog.unfollowed 4))=true:=by kernel_rfl
theorem Qk:((Rows.fnDetailsUserUptoRow.recurses==Tryz.pinned.checked.prog.recurses 4))=true:=by kernel_rfl
theorem Qj:((Rows.fnDetailsUserUptoRow.named==Tryz.pinned.checked.prog.varsNamed 4))=true:=by kernel_rfl
theorem Qi:((Rows.fnDetailsUserUptoRow.maps==(Tryz.f4.params.toList++(Rows.OpenSpec.upto Rows.fnDetailsUserSpec).bare.plain.varTypes Tryz.pinned.checked.prog).any (Tryz.pinned.checked.prog.mapsRec ·)))=true:=by kernel_rfl
theorem Qh:((Rows.fnDetailsUserUptoRow.ifaces==(Tryz.f4.params.toList++(Rows.OpenSpec.upto Rows.fnDetailsUserSpec).bare.plain.varTypes Tryz.pinned.checked.prog).any (Tryz.pinned.checked.prog.ifacesRec ·)))=true:=by kernel_rfl
theorem Qg:((Rows.fnDetailsUserUptoRow.mapsOut==Tryz.pinned.checked.prog.mapsAmong Tryz.f4.resultTypes.toList))=true:=by kernel_rfl
theorem Qf:((Rows.fnDetailsUserUptoRow.loops==(Tryz.f4.params.toList++(Rows.OpenSpec.upto Rows.fnDetailsUserSpec).bare.plain.varTypes Tryz.pinned.checked.prog).any (Tryz.pinned.checked.prog.loopsFrom ·)))=true:=by kernel_rfl
theorem Qe:((Rows.fnDetailsUserUptoRow.wideKeys==(Tryz.f4.params.toList++(Rows.OpenSpec.upto Rows.fnDetailsUserSpec).bare.plain.varTypes Tryz.pinned.checked.prog++Tryz.f4.resultTypes.toList).any (Tryz.pinned.checked.prog.wideKeysFrom ·)))=true:=by kernel_rfl
theorem Qd:((Rows.OpenSpec.upto Rows.fnDetailsUserSpec).bare.vars.all (Tryz.pinned.checked.prog.varReadable ·))=true:=by kernel_rfl
theorem Qc:(Tryz.f4.resultTypes.all (fun t=>Tryz.pinned.checked.prog.readableRec t&&decide (t<Tryz.pinned.checked.prog.types.size)))=true:=by kernel_rfl
theorem Qb:((Rows.fnDetailsUserUptoRow.ifacesOut==Tryz.f4.resultTypes.toList.any (Tryz.pinned.checked.prog.ifacesRec ·)))=true:=by kernel_rfl
theorem Qa:((Rows.fnDetailsUserUptoRow.loopsOut==Tryz.f4.resultTypes.toList.any (Tryz.pinned.checked.prog.loopsFrom ·)))=true:=by kernel_rfl
theorem R8:((Rows.fnDetailsUserUptoRow.plainKeys==Tryz.pinned.checked.prog.plainKeys))=true:=by kernel_rfl
theorem R7:(Rows.fnDetailsUserUptoRow.shortTexts.isNone)=true:=by kernel_rfl
theorem R6:(Tryz.pinned.checked.prog.stopsHeard)=true:=by kernel_rfl
theorem R5:(Tryz.pinned.checked.prog.mayEnter)=true:=by kernel_rfl
theorem R3:((Rows.fnDetailsUserUptoRow.lifted==Tryz.pinned.checked.prog.liftsFinal))=true:=by kernel_rfl
theorem R2:((Tryz.pinned.checked.prog.make==some Rows.fnDetailsUserUptoRow.make))=true:=by kernel_rfl
theorem Rz:((Rows.fnDetailsUserUptoRow.kinds==(if Rows.fnDetailsUserUptoRow.domain.isEmpty then [] else Tryz.f4.params.toList.map fun t=>match Tryz.pinned.checked.prog.underlying t with|some (.int k)=>some k|_=>none)))=true:=by kernel_rfl
theorem Ry:((Rows.fnDetailsUserUptoRow.pinned==Rows.fnDetailsUserUptoRow.pinnedBy))=true:=by kernel_rfl
theorem Rx:((Rows.fnDetailsUserUptoRow.veiled==(Tryz.f4.params.toList++(Rows.OpenSpec.upto Rows.fnDetailsUserSpec).bare.plain.varTypes Tryz.pinned.checked.prog++Tryz.f4.resultTypes.toList).any (Tryz.pinned.checked.prog.veiledRec ·)))=true:=by kernel_rfl
theorem Rw:(Rows.fnDetailsUserUptoRow.veiledFits Tryz.pinned.checked.prog Tryz.f4.params.toList (Tryz.f4.params.toList++(Rows.OpenSpec.upto Rows.fnDetailsUserSpec).bare.plain.varTypes Tryz.pinned.checked.prog++Tryz.f4.resultTypes.toList))=true:=by kernel_rfl
theorem Qm:joinedFacts Tryz.pinned.checked.prog 4 Tryz.f4 (Rows.OpenSpec.upto Rows.fnDetailsUserSpec).bare Rows.fnDetailsUserUptoRow=true:=by
 delta joinedFacts;exact Zd (Zd (Zd (Zd (Zd (Zd (Zd (Zd (Zd (Zd (Zd (Zd (Zd (Zd (Zd (Zd (Zd (Zd (Zd (Zd (Zd (Zd (Zd (Zd (Zd (Zd (Zd (Zd (Zd (Zd (Zd Ob Oa) P9) P8) P7) P6) P5) P4) P3) P1) Ql) Qk) Qj) Qi) Qh) Qg) Qf) Qe) Qd) Qc) Qb) Qa) R8) R7) R6) R5) R3) R2) Rz) Ry) Rx) Rw
end Go.Proofs.YtoliamijgmifkaaGreatDoor
