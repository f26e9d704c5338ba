/- The row of laws.FnFeaturesAt: each closed fact that its statement asks, a theorem each. -/
import Derived.Test.YtoliamijgmifkaaGreatDoorCards
import Derived.ProofKit
import Derived.JoinedCond
set_option linter.all false
set_option maxRecDepth 100000
namespace Go.Proofs.YtoliamijgmifkaaGreatDoor
open Go
theorem Zc{a b:Bool}(h:a=true)(k:b=true):(a&&b)=true:=by rw[h,k];rfl
theorem Ru:(Rows.fnFeaturesAtUptoRow.wf (OpenSpec.ofChange (Rows.OpenSpec.upto Rows.fnFeaturesAtSpec).bare))=true:=by kernel_rfl
theorem Rt:(laidOutB Tryz.pinned.checked.prog)=true:=by kernel_rfl
theorem Rs:(mapsRowed Tryz.pinned.checked.prog)=true:=by kernel_rfl
theorem Rr:(Tryz.f7.params.all (Tryz.pinned.checked.prog.readableRec ·))=true:=by kernel_rfl
theorem Rq:(namedTie Tryz.pinned.checked.prog Rows.fnFeaturesAtUptoRow.named (Rows.OpenSpec.upto Rows.fnFeaturesAtSpec).bare.vars)=true:=by kernel_rfl
theorem Rp:((Rows.fnFeaturesAtUptoRow.stops==[]))=true:=by kernel_rfl
theorem Ro:((Tryz.pinned.checked.prog.stops==[]))=true:=by kernel_rfl
theorem Rn:((Rows.fnFeaturesAtUptoRow.knobs==[]))=true:=by kernel_rfl
theorem Rm:((Tryz.pinned.checked.prog.stopKnobs==[]))=true:=by kernel_rfl
theorem Rl:((Rows.fnFeaturesAtUptoRow.inPlace==Tryz.pinned.checked.prog.inPlace 7))=true:=by kernel_rfl
theorem Ss:((Rows.fnFeaturesAtUptoRow.unfollowed==Tryz.pinned.checked.prog.unfollowed 7))=true:=by kernel_rfl
theorem Sr:((Rows.fnFeaturesAtUptoRow.recurses==Tryz.pinned.checked.prog.recurses 7))=true:=by kernel_rfl
theorem Sq:((Rows.fnFeaturesAtUptoRow.named==Tryz.pinned.checked.prog.varsNamed 7))=true:=by kernel_rfl
theorem Sp:((Rows.fnFeaturesAtUptoRow.maps==(Tryz.f7.params.toList++(Rows.OpenSpec.upto Rows.fnFeaturesAtSpec).bare.plain.varTypes Tryz.pinned.checked.prog).any (Tryz.pinned.checked.prog.mapsRec ·)))=true:=by kernel_rfl
theorem So:((Rows.fnFeaturesAtUptoRow.ifaces==(Tryz.f7.params.toList++(Rows.OpenSpec.upto Rows.fnFeaturesAtSpec).bare.plain.varTypes Tryz.pinned.checked.prog).any (Tryz.pinned.checked.prog.ifacesRec ·)))=true:=by kernel_rfl
theorem Sn:((Rows.fnFeaturesAtUptoRow.mapsOut==Tryz.pinned.checked.prog.mapsAmong Tryz.f7.resultTypes.toList))=true:=by kernel_rfl
theorem Sm:((Rows.fnFeaturesAtUptoRow.loops==(Tryz.f7.params.toList++(Rows.OpenSpec.upto Rows.fnFeaturesAtSpec).bare.plain.varTypes Tryz.pinned.checked.prog).any (Tryz.pinned.checked.prog.loopsFrom ·)))=true:=by kernel_rfl
theorem Sl:((Rows.fnFeaturesAtUptoRow.wideKeys==(Tryz.f7.params.toList++(Rows.OpenSpec.upto Rows.fnFeaturesAtSpec).bare.plain.varTypes Tryz.pinned.checked.prog++Tryz.f7.resultTypes.toList).any (Tryz.pinned.checked.prog.wideKeysFrom ·)))=true:=by kernel_rfl
theorem Sk:((Rows.OpenSpec.upto Rows.fnFeaturesAtSpec).bare.vars.all (Tryz.pinned.checked.prog.varReadable ·))=true:=by kernel_rfl
theorem Sj:(Tryz.f7.resultTypes.all (fun t=>Tryz.pinned.checked.prog.readableRec t&&decide (t<Tryz.pinned.checked.prog.types.size)))=true:=by kernel_rfl
theorem Si:((Rows.fnFeaturesAtUptoRow.ifacesOut==Tryz.f7.resultTypes.toList.any (Tryz.pinned.checked.prog.ifacesRec ·)))=true:=by kernel_rfl
theorem Sh:((Rows.fnFeaturesAtUptoRow.loopsOut==Tryz.f7.resultTypes.toList.any (Tryz.pinned.checked.prog.loopsFrom ·)))=true:=by kernel_rfl
theorem Sg:((Rows.fnFeaturesAtUptoRow.plainKeys==Tryz.pinned.checked.prog.plainKeys))=true:=by kernel_rfl
theorem Sf:(Rows.fnFeaturesAtUptoRow.shortTexts.isNone)=true:=by kernel_rfl
theorem Se:(Tryz.pinned.checked.prog.stopsHeard)=true:=by kernel_rfl
theorem Sd:(Tryz.pinned.checked.prog.mayEnter)=true:=by kernel_rfl
theorem Sc:((Rows.fnFeaturesAtUptoRow.lifted==Tryz.pinned.checked.prog.liftsFinal))=true:=by kernel_rfl
theorem Sa:((Tryz.pinned.checked.prog.make==some Rows.fnFeaturesAtUptoRow.make))=true:=by kernel_rfl
theorem T9:((Rows.fnFeaturesAtUptoRow.kinds==(if Rows.fnFeaturesAtUptoRow.domain.isEmpty then [] else Tryz.f7.params.toList.map fun t=>match Tryz.pinned.checked.prog.underlying t with|some (.int k)=>some k|_=>none)))=true:=by kernel_rfl
theorem T8:((Rows.fnFeaturesAtUptoRow.pinned==Rows.fnFeaturesAtUptoRow.pinnedBy))=true:=by kernel_rfl
theorem T7:((Rows.fnFeaturesAtUptoRow.veiled==(Tryz.f7.params.toList++(Rows.OpenSpec.upto Rows.fnFeaturesAtSpec).bare.plain.varTypes Tryz.pinned.checked.prog++Tryz.f7.resultTypes.toList).any (Tryz.pinned.checked.prog.veiledRec ·)))=true:=by kernel_rfl
theorem T6:(Rows.fnFeaturesAtUptoRow.veiledFits Tryz.pinned.checked.prog Tryz.f7.params.toList (Tryz.f7.params.toList++(Rows.OpenSpec.upto Rows.fnFeaturesAtSpec).bare.plain.varTypes Tryz.pinned.checked.prog++Tryz.f7.resultTypes.toList))=true:=by kernel_rfl
theorem Su:joinedFacts Tryz.pinned.checked.prog 7 Tryz.f7 (Rows.OpenSpec.upto Rows.fnFeaturesAtSpec).bare Rows.fnFeaturesAtUptoRow=true:=by
 delta joinedFacts;exact Zc (Zc (Zc (Zc (Zc (Zc (Zc (Zc (Zc (Zc (Zc (Zc (Zc (Zc (Zc (Zc (Zc (Zc (Zc (Zc (Zc (Zc (Zc (Zc (Zc (Zc (Zc (Zc (Zc (Zc (Zc Ru Rt) Rs) Rr) Rq) Rp) Ro) Rn) Rm) Rl) Ss) Sr) Sq) Sp) So) Sn) Sm) Sl) Sk) Sj) Si) Sh) Sg) Sf) Se) Sd) Sc) Sa) T9) T8) T7) T6
end Go.Proofs.YtoliamijgmifkaaGreatDoor
