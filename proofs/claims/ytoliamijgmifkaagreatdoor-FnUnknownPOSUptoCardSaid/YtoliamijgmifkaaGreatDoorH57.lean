/- The row of laws.FnUnknownPOS:  -/
import Derived.Test.YtoliamijgmifkaaGreatDoorCards
import Derived.ProofKit
import Derived.JoinedCond
set_option linter.all false
set_option maxRecDepth 100000
namespace Go.Proofs.YtoliamijgmifkaaGreatDoor
open Go
theorem Ze{a b:Bool}(h:a=true)(k:b=true):(a&&b)=true:=by rw[h,k];rfl
theorem O7:(Rows.fnUnknownPOSUptoRow.wf (OpenSpec.ofChange (Rows.OpenSpec.upto Rows.fnUnknownPOSSpec).bare))=true:=by kernel_rfl
theorem O6:(laidOutB Tryz.pinned.checked.prog)=true:=by kernel_rfl
theorem O5:(mapsRowed Tryz.pinned.checked.prog)=true:=by kernel_rfl
theorem O4:(Tryz.f6.params.all (Tryz.pinned.checked.prog.readableRec ·))=true:=by kernel_rfl
theorem O3:(namedTie Tryz.pinned.checked.prog Rows.fnUnknownPOSUptoRow.named (Rows.OpenSpec.upto Rows.fnUnknownPOSSpec).bare.vars)=true:=by kernel_rfl
theorem Oz:((Rows.fnUnknownPOSUptoRow.stops==[]))=true:=by kernel_rfl
theorem Oy:((Tryz.pinned.checked.prog.stops==[]))=true:=by kernel_rfl
theorem Ox:((Rows.fnUnknownPOSUptoRow.knobs==[]))=true:=by kernel_rfl
theorem Ow:((Tryz.pinned.checked.prog.stopKnobs==[]))=true:=by kernel_rfl
theorem Ov:((Rows.fnUnknownPOSUptoRow.inPlace==Tryz.pinned.checked.prog.inPlace 6))=true:=by kernel_rfl
theorem Pz:((Rows.fnUnknownPOSUptoRow.unfollowed==Tryz.pinned.checked.prog.unfollowed 6))=true:=by kernel_rfl
theorem Py:((Rows.fnUnknownPOSUptoRow.recurses==Tryz.pinned.checked.prog.recurses 6))=true:=by kernel_rfl
theorem Px:((Rows.fnUnknownPOSUptoRow.named==Tryz.pinned.checked.prog.varsNamed 6))=true:=by kernel_rfl
theorem Pw:((Rows.fnUnknownPOSUptoRow.maps==(Tryz.f6.params.toList++(Rows.OpenSpec.upto Rows.fnUnknownPOSSpec).bare.plain.varTypes Tryz.pinned.checked.prog).any (Tryz.pinned.checked.prog.mapsRec ·)))=true:=by kernel_rfl
theorem Pv:((Rows.fnUnknownPOSUptoRow.ifaces==(Tryz.f6.params.toList++(Rows.OpenSpec.upto Rows.fnUnknownPOSSpec).bare.plain.varTypes Tryz.pinned.checked.prog).any (Tryz.pinned.checked.prog.ifacesRec ·)))=true:=by kernel_rfl
theorem Pu:((Rows.fnUnknownPOSUptoRow.mapsOut==Tryz.pinned.checked.prog.mapsAmong Tryz.f6.resultTypes.toList))=true:=by kernel_rfl
theorem Pt:((Rows.fnUnknownPOSUptoRow.loops==(Tryz.f6.params.toList++(Rows.OpenSpec.upto Rows.fnUnknownPOSSpec).bare.plain.varTypes Tryz.pinned.checked.prog).any (Tryz.pinned.checked.prog.loopsFrom ·)))=true:=by kernel_rfl
theorem Ps:((Rows.fnUnknownPOSUptoRow.wideKeys==(Tryz.f6.params.toList++(Rows.OpenSpec.upto Rows.fnUnknownPOSSpec).bare.plain.varTypes Tryz.pinned.checked.prog++Tryz.f6.resultTypes.toList).any (Tryz.pinned.checked.prog.wideKeysFrom ·)))=true:=by kernel_rfl
theorem Pr:((Rows.OpenSpec.upto Rows.fnUnknownPOSSpec).bare.vars.all (Tryz.pinned.checked.prog.varReadable ·))=true:=by kernel_rfl
theorem Pq:(Tryz.f6.resultTypes.all (fun t=>Tryz.pinned.checked.prog.readableRec t&&decide (t<Tryz.pinned.checked.prog.types.size)))=true:=by kernel_rfl
theorem Pp:((Rows.fnUnknownPOSUptoRow.ifacesOut==Tryz.f6.resultTypes.toList.any (Tryz.pinned.checked.prog.ifacesRec ·)))=true:=by kernel_rfl
theorem Po:((Rows.fnUnknownPOSUptoRow.loopsOut==Tryz.f6.resultTypes.toList.any (Tryz.pinned.checked.prog.loopsFrom ·)))=true:=by kernel_rfl
theorem Pn:((Rows.fnUnknownPOSUptoRow.plainKeys==Tryz.pinned.checked.prog.plainKeys))=true:=by kernel_rfl
theorem Pm:(Rows.fnUnknownPOSUptoRow.shortTexts.isNone)=true:=by kernel_rfl
theorem Pk:(Tryz.pinned.checked.prog.stopsHeard)=true:=by kernel_rfl
theorem Pj:(Tryz.pinned.checked.prog.mayEnter)=true:=by kernel_rfl
theorem Pi:((Rows.fnUnknownPOSUptoRow.lifted==Tryz.pinned.checked.prog.liftsFinal))=true:=by kernel_rfl
theorem Ph:((Tryz.pinned.checked.prog.make==some Rows.fnUnknownPOSUptoRow.make))=true:=by kernel_rfl
theorem Pg:((Rows.fnUnknownPOSUptoRow.kinds==(if Rows.fnUnknownPOSUptoRow.domain.isEmpty then [] else Tryz.f6.params.toList.map fun t=>match Tryz.pinned.checked.prog.underlying t with|some (.int k)=>some k|_=>none)))=true:=by kernel_rfl
theorem Pf:((Rows.fnUnknownPOSUptoRow.pinned==Rows.fnUnknownPOSUptoRow.pinnedBy))=true:=by kernel_rfl
theorem Pe:((Rows.fnUnknownPOSUptoRow.veiled==(Tryz.f6.params.toList++(Rows.OpenSpec.upto Rows.fnUnknownPOSSpec).bare.plain.varTypes Tryz.pinned.checked.prog++Tryz.f6.resultTypes.toList).any (Tryz.pinned.checked.prog.veiledRec ·)))=true:=by kernel_rfl
theorem Pd:(Rows.fnUnknownPOSUptoRow.veiledFits Tryz.pinned.checked.prog Tryz.f6.params.toList (Tryz.f6.params.toList++(Rows.OpenSpec.upto Rows.fnUnknownPOSSpec).bare.plain.varTypes Tryz.pinned.checked.prog++Tryz.f6.resultTypes.toList))=true:=by kernel_rfl
theorem P0:joinedFacts Tryz.pinned.checked.prog 6 Tryz.f6 (Rows.OpenSpec.upto Rows.fnUnknownPOSSpec).bare Rows.fnUnknownPOSUptoRow=true:=by
 delta joinedFacts;exact Ze (Ze (Ze (Ze (Ze (Ze (Ze (Ze (Ze (Ze (Ze (Ze (Ze (Ze (Ze (Ze (Ze (Ze (Ze (Ze (Ze (Ze (Ze (Ze (Ze (Ze (Ze (Ze (Ze (Ze (Ze O7 O6) O5) O4) O3) Oz) Oy) Ox) Ow) Ov) Pz) Py) Px) Pw) Pv) Pu) Pt) Ps) Pr) Pq) Pp) Po) Pn) Pm) Pk) Pj) Pi) Ph) Pg) Pf) Pe) Pd
end Go.Proofs.YtoliamijgmifkaaGreatDoor
