/- The row of laws.FnDetailsKnown -/
import Derived.Test.YtoliamijgmifkaaGreatDoorCards
import Derived.ProofKit
import Derived.JoinedCond
set_option linter.all false
set_option maxRecDepth 100000
namespace Go.Proofs.YtoliamijgmifkaaGreatDoor
open Go
theorem Zc{a b:Bool}(h:a=true)(k:b=true):(a&&b)=true:=by rw[h,k];rfl
theorem Qw:(Rows.fnDetailsKnownUptoRow.wf (OpenSpec.ofChange (Rows.OpenSpec.upto Rows.fnDetailsKnownSpec).bare))=true:=by kernel_rfl
theorem Qv:(laidOutB Tryz.pinned.checked.prog)=true:=by kernel_rfl
theorem Qu:(mapsRowed Tryz.pinned.checked.prog)=true:=by kernel_rfl
theorem Qt:(Tryz.f3.params.all (Tryz.pinned.checked.prog.readableRec ·))=true:=by kernel_rfl
theorem Qs:(namedTie Tryz.pinned.checked.prog Rows.fnDetailsKnownUptoRow.named (Rows.OpenSpec.upto Rows.fnDetailsKnownSpec).bare.vars)=true:=by kernel_rfl
theorem Qr:((Rows.fnDetailsKnownUptoRow.stops==[]))=true:=by kernel_rfl
theorem Qq:((Tryz.pinned.checked.prog.stops==[]))=true:=by kernel_rfl
theorem Qp:((Rows.fnDetailsKnownUptoRow.knobs==[]))=true:=by kernel_rfl
theorem Qo:((Tryz.pinned.checked.prog.stopKnobs==[]))=true:=by kernel_rfl
theorem Qn:((Rows.fnDetailsKnownUptoRow.inPlace==Tryz.pinned.checked.prog.inPlace 3))=true:=by kernel_rfl
theorem Sy:((Rows.fnDetailsKnownUptoRow.unfollowed==Tryz.pinned.checked.prog.unfollowed 3))=true:=by kernel_rfl
theorem Sw:((Rows.fnDetailsKnownUptoRow.recurses==Tryz.pinned.checked.prog.recurses 3))=true:=by kernel_rfl
theorem Sv:((Rows.fnDetailsKnownUptoRow.named==Tryz.pinned.checked.prog.varsNamed 3))=true:=by kernel_rfl
theorem Su:((Rows.fnDetailsKnownUptoRow.maps==(Tryz.f3.params.toList++(Rows.OpenSpec.upto Rows.fnDetailsKnownSpec).bare.plain.varTypes Tryz.pinned.checked.prog).any (Tryz.pinned.checked.prog.mapsRec ·)))=true:=by kernel_rfl
theorem Ss:((Rows.fnDetailsKnownUptoRow.ifaces==(Tryz.f3.params.toList++(Rows.OpenSpec.upto Rows.fnDetailsKnownSpec).bare.plain.varTypes Tryz.pinned.checked.prog).any (Tryz.pinned.checked.prog.ifacesRec ·)))=true:=by kernel_rfl
theorem Sr:((Rows.fnDetailsKnownUptoRow.mapsOut==Tryz.pinned.checked.prog.mapsAmong Tryz.f3.resultTypes.toList))=true:=by kernel_rfl
theorem Sq:((Rows.fnDetailsKnownUptoRow.loops==(Tryz.f3.params.toList++(Rows.OpenSpec.upto Rows.fnDetailsKnownSpec).bare.plain.varTypes Tryz.pinned.checked.prog).any (Tryz.pinned.checked.prog.loopsFrom ·)))=true:=by kernel_rfl
theorem Sp:((Rows.fnDetailsKnownUptoRow.wideKeys==(Tryz.f3.params.toList++(Rows.OpenSpec.upto Rows.fnDetailsKnownSpec).bare.plain.varTypes Tryz.pinned.checked.prog++Tryz.f3.resultTypes.toList).any (Tryz.pinned.checked.prog.wideKeysFrom ·)))=true:=by kernel_rfl
theorem So:((Rows.OpenSpec.upto Rows.fnDetailsKnownSpec).bare.vars.all (Tryz.pinned.checked.prog.varReadable ·))=true:=by kernel_rfl
theorem Sn:(Tryz.f3.resultTypes.all (fun t=>Tryz.pinned.checked.prog.readableRec t&&decide (t<Tryz.pinned.checked.prog.types.size)))=true:=by kernel_rfl
theorem Sm:((Rows.fnDetailsKnownUptoRow.ifacesOut==Tryz.f3.resultTypes.toList.any (Tryz.pinned.checked.prog.ifacesRec ·)))=true:=by kernel_rfl
theorem Sl:((Rows.fnDetailsKnownUptoRow.loopsOut==Tryz.f3.resultTypes.toList.any (Tryz.pinned.checked.prog.loopsFrom ·)))=true:=by kernel_rfl
theorem Sk:((Rows.fnDetailsKnownUptoRow.plainKeys==Tryz.pinned.checked.prog.plainKeys))=true:=by kernel_rfl
theorem Sj:(Rows.fnDetailsKnownUptoRow.shortTexts.isNone)=true:=by kernel_rfl
theorem Si:(Tryz.pinned.checked.prog.stopsHeard)=true:=by kernel_rfl
theorem Sh:(Tryz.pinned.checked.prog.mayEnter)=true:=by kernel_rfl
theorem Sg:((Rows.fnDetailsKnownUptoRow.lifted==Tryz.pinned.checked.prog.liftsFinal))=true:=by kernel_rfl
theorem Sf:((Tryz.pinned.checked.prog.make==some Rows.fnDetailsKnownUptoRow.make))=true:=by kernel_rfl
theorem Se:((Rows.fnDetailsKnownUptoRow.kinds==(if Rows.fnDetailsKnownUptoRow.domain.isEmpty then [] else Tryz.f3.params.toList.map fun t=>match Tryz.pinned.checked.prog.underlying t with|some (.int k)=>some k|_=>none)))=true:=by kernel_rfl
theorem Sd:((Rows.fnDetailsKnownUptoRow.pinned==Rows.fnDetailsKnownUptoRow.pinnedBy))=true:=by kernel_rfl
theorem T9:((Rows.fnDetailsKnownUptoRow.veiled==(Tryz.f3.params.toList++(Rows.OpenSpec.upto Rows.fnDetailsKnownSpec).bare.plain.varTypes Tryz.pinned.checked.prog++Tryz.f3.resultTypes.toList).any (Tryz.pinned.checked.prog.veiledRec ·)))=true:=by kernel_rfl
theorem T8:(Rows.fnDetailsKnownUptoRow.veiledFits Tryz.pinned.checked.prog Tryz.f3.params.toList (Tryz.f3.params.toList++(Rows.OpenSpec.upto Rows.fnDetailsKnownSpec).bare.plain.varTypes Tryz.pinned.checked.prog++Tryz.f3.resultTypes.toList))=true:=by kernel_rfl
theorem Sz:joinedFacts Tryz.pinned.checked.prog 3 Tryz.f3 (Rows.OpenSpec.upto Rows.fnDetailsKnownSpec).bare Rows.fnDetailsKnownUptoRow=true:=by
 delta joinedFacts;exact Zc (Zc (Zc (Zc (Zc (Zc (Zc (Zc (Zc (Zc (Zc (Zc (Zc (Zc (Zc (Zc (Zc (Zc (Zc (Zc (Zc (Zc (Zc (Zc (Zc (Zc (Zc (Zc (Zc (Zc (Zc Qw Qv) Qu) Qt) Qs) Qr) Qq) Qp) Qo) Qn) Sy) Sw) Sv) Su) Ss) Sr) Sq) Sp) So) Sn) Sm) Sl) Sk) Sj) Si) Sh) Sg) Sf) Se) Sd) T9) T8
end Go.Proofs.YtoliamijgmifkaaGreatDoor
