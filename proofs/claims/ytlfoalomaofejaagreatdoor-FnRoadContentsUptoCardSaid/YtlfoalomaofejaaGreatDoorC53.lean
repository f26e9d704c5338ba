/- The row of laws.FnRoadContents -/
import Derived.Test.YtlfoalomaofejaaGreatDoorCards
import Derived.ProofKit
import Derived.JoinedCond
set_option linter.all false
set_option maxRecDepth 100000
namespace Go.Proofs.YtlfoalomaofejaaGreatDoor
open Go
theorem Zc{a b:Bool}(h:a=true)(k:b=true):(a&&b)=true:=by rw[h,k];rfl
theorem Rj:(Rows.fnRoadContentsUptoRow.wf (OpenSpec.ofChange (Rows.OpenSpec.upto Rows.fnRoadContentsSpec).bare))=true:=by kernel_rfl
theorem Ri:(laidOutB Tryz.pinned.checked.prog)=true:=by kernel_rfl
theorem Rh:(mapsRowed Tryz.pinned.checked.prog)=true:=by kernel_rfl
theorem Rg:(Tryz.f5.params.all (Tryz.pinned.checked.prog.readableRec ·))=true:=by kernel_rfl
theorem Re:(namedTie Tryz.pinned.checked.prog Rows.fnRoadContentsUptoRow.named (Rows.OpenSpec.upto Rows.fnRoadContentsSpec).bare.vars)=true:=by kernel_rfl
theorem Rc:((Rows.fnRoadContentsUptoRow.stops==[]))=true:=by kernel_rfl
theorem Rb:((Tryz.pinned.checked.prog.stops==[]))=true:=by kernel_rfl
theorem Ra:((Rows.fnRoadContentsUptoRow.knobs==[]))=true:=by kernel_rfl
theorem Sz:((Tryz.pinned.checked.prog.stopKnobs==[]))=true:=by kernel_rfl
theorem Sy:((Rows.fnRoadContentsUptoRow.inPlace==Tryz.pinned.checked.prog.inPlace 5))=true:=by kernel_rfl
theorem Sf:((Rows.fnRoadContentsUptoRow.unfollowed==Tryz.pinned.checked.prog.unfollowed 5))=true:=by kernel_rfl
theorem Se:((Rows.fnRoadContentsUptoRow.recurses==Tryz.pinned.checked.prog.recurses 5))=true:=by kernel_rfl
theorem Sd:((Rows.fnRoadContentsUptoRow.named==Tryz.pinned.checked.prog.varsNamed 5))=true:=by kernel_rfl
theorem T9:((Rows.fnRoadContentsUptoRow.maps==(Tryz.f5.params.toList++(Rows.OpenSpec.upto Rows.fnRoadContentsSpec).bare.plain.varTypes Tryz.pinned.checked.prog).any (Tryz.pinned.checked.prog.mapsRec ·)))=true:=by kernel_rfl
theorem T8:((Rows.fnRoadContentsUptoRow.ifaces==(Tryz.f5.params.toList++(Rows.OpenSpec.upto Rows.fnRoadContentsSpec).bare.plain.varTypes Tryz.pinned.checked.prog).any (Tryz.pinned.checked.prog.ifacesRec ·)))=true:=by kernel_rfl
theorem T7:((Rows.fnRoadContentsUptoRow.mapsOut==Tryz.pinned.checked.prog.mapsAmong Tryz.f5.resultTypes.toList))=true:=by kernel_rfl
theorem T6:((Rows.fnRoadContentsUptoRow.loops==(Tryz.f5.params.toList++(Rows.OpenSpec.upto Rows.fnRoadContentsSpec).bare.plain.varTypes Tryz.pinned.checked.prog).any (Tryz.pinned.checked.prog.loopsFrom ·)))=true:=by kernel_rfl
theorem T5:((Rows.fnRoadContentsUptoRow.wideKeys==(Tryz.f5.params.toList++(Rows.OpenSpec.upto Rows.fnRoadContentsSpec).bare.plain.varTypes Tryz.pinned.checked.prog++Tryz.f5.resultTypes.toList).any (Tryz.pinned.checked.prog.wideKeysFrom ·)))=true:=by kernel_rfl
theorem T4:((Rows.OpenSpec.upto Rows.fnRoadContentsSpec).bare.vars.all (Tryz.pinned.checked.prog.varReadable ·))=true:=by kernel_rfl
theorem T3:(Tryz.f5.resultTypes.all (fun t=>Tryz.pinned.checked.prog.readableRec t&&decide (t<Tryz.pinned.checked.prog.types.size)))=true:=by kernel_rfl
theorem T2:((Rows.fnRoadContentsUptoRow.ifacesOut==Tryz.f5.resultTypes.toList.any (Tryz.pinned.checked.prog.ifacesRec ·)))=true:=by kernel_rfl
theorem T0:((Rows.fnRoadContentsUptoRow.loopsOut==Tryz.f5.resultTypes.toList.any (Tryz.pinned.checked.prog.loopsFrom ·)))=true:=by kernel_rfl
theorem Tz:((Rows.fnRoadContentsUptoRow.plainKeys==Tryz.pinned.checked.prog.plainKeys))=true:=by kernel_rfl
theorem Tx:(Rows.fnRoadContentsUptoRow.shortTexts.isNone)=true:=by kernel_rfl
theorem Tw:(Tryz.pinned.checked.prog.stopsHeard)=true:=by kernel_rfl
theorem Tv:(Tryz.pinned.checked.prog.mayEnter)=true:=by kernel_rfl
theorem Tu:((Rows.fnRoadContentsUptoRow.lifted==Tryz.pinned.checked.prog.liftsFinal))=true:=by kernel_rfl
theorem Tt:((Tryz.pinned.checked.prog.make==some Rows.fnRoadContentsUptoRow.make))=true:=by kernel_rfl
theorem Ts:((Rows.fnRoadContentsUptoRow.kinds==(if Rows.fnRoadContentsUptoRow.domain.isEmpty then [] else Tryz.f5.params.toList.map fun t=>match Tryz.pinned.checked.prog.underlying t with|some (.int k)=>some k|_=>none)))=true:=by kernel_rfl
theorem Tr:((Rows.fnRoadContentsUptoRow.pinned==Rows.fnRoadContentsUptoRow.pinnedBy))=true:=by kernel_rfl
theorem Tq:((Rows.fnRoadContentsUptoRow.veiled==(Tryz.f5.params.toList++(Rows.OpenSpec.upto Rows.fnRoadContentsSpec).bare.plain.varTypes Tryz.pinned.checked.prog++Tryz.f5.resultTypes.toList).any (Tryz.pinned.checked.prog.veiledRec ·)))=true:=by kernel_rfl
theorem Tp:(Rows.fnRoadContentsUptoRow.veiledFits Tryz.pinned.checked.prog Tryz.f5.params.toList (Tryz.f5.params.toList++(Rows.OpenSpec.upto Rows.fnRoadContentsSpec).bare.plain.varTypes Tryz.pinned.checked.prog++Tryz.f5.resultTypes.toList))=true:=by kernel_rfl
theorem Sg:joinedFacts Tryz.pinned.checked.prog 5 Tryz.f5 (Rows.OpenSpec.upto Rows.fnRoadContentsSpec).bare Rows.fnRoadContentsUptoRow=true:=by
 delta joinedFacts;exact Zc (Zc (Zc (Zc (Zc (Zc (Zc (Zc (Zc (Zc (Zc (Zc (Zc (Zc (Zc (Zc (Zc (Zc (Zc (Zc (Zc (Zc (Zc (Zc (Zc (Zc (Zc (Zc (Zc (Zc (Zc Rj Ri) Rh) Rg) Re) Rc) Rb) Ra) Sz) Sy) Sf) Se) Sd) T9) T8) T7) T6) T5) T4) T3) T2) T0) Tz) Tx) Tw) Tv) Tu) Tt) Ts) Tr) Tq) Tp
end Go.Proofs.YtlfoalomaofejaaGreatDoor
