/- The row of laws.FnForms: each  -/
import Derived.Test.YtoliamijgmifkaaGreatDoorCards
import Derived.ProofKit
import Derived.JoinedCond
set_option linter.all false
set_option maxRecDepth 100000
namespace Go.Proofs.YtoliamijgmifkaaGreatDoor
open Go
theorem Zl{a b:Bool}(h:a=true)(k:b=true):(a&&b)=true:=by rw[h,k];rfl
theorem J0:(Rows.fnFormsUptoRow.wf (OpenSpec.ofChange (Rows.OpenSpec.upto Rows.fnFormsSpec).bare))=true:=by kernel_rfl
theorem Jz:(laidOutB Tryz.pinned.checked.prog)=true:=by kernel_rfl
theorem Jy:(mapsRowed Tryz.pinned.checked.prog)=true:=by kernel_rfl
theorem Jx:(Tryz.f5.params.all (Tryz.pinned.checked.prog.readableRec ·))=true:=by kernel_rfl
theorem Jw:(namedTie Tryz.pinned.checked.prog Rows.fnFormsUptoRow.named (Rows.OpenSpec.upto Rows.fnFormsSpec).bare.vars)=true:=by kernel_rfl
theorem Jv:((Rows.fnFormsUptoRow.stops==[]))=true:=by kernel_rfl
theorem Ju:((Tryz.pinned.checked.prog.stops==[]))=true:=by kernel_rfl
theorem Jt:((Rows.fnFormsUptoRow.knobs==[]))=true:=by kernel_rfl
theorem Js:((Tryz.pinned.checked.prog.stopKnobs==[]))=true:=by kernel_rfl
theorem Jr:((Rows.fnFormsUptoRow.inPlace==Tryz.pinned.checked.prog.inPlace 5))=true:=by kernel_rfl
theorem Ka:((Rows.fnFormsUptoRow.unfollowed==Tryz.pinned.checked.prog.unfollowed 5))=true:=by kernel_rfl
theorem L9:((Rows.fnFormsUptoRow.recurses==Tryz.pinned.checked.prog.recurses 5))=true:=by kernel_rfl
theorem L8:((Rows.fnFormsUptoRow.named==Tryz.pinned.checked.prog.varsNamed 5))=true:=by kernel_rfl
theorem L7:((Rows.fnFormsUptoRow.maps==(Tryz.f5.params.toList++(Rows.OpenSpec.upto Rows.fnFormsSpec).bare.plain.varTypes Tryz.pinned.checked.prog).any (Tryz.pinned.checked.prog.mapsRec ·)))=true:=by kernel_rfl
theorem L6:((Rows.fnFormsUptoRow.ifaces==(Tryz.f5.params.toList++(Rows.OpenSpec.upto Rows.fnFormsSpec).bare.plain.varTypes Tryz.pinned.checked.prog).any (Tryz.pinned.checked.prog.ifacesRec ·)))=true:=by kernel_rfl
theorem L5:((Rows.fnFormsUptoRow.mapsOut==Tryz.pinned.checked.prog.mapsAmong Tryz.f5.resultTypes.toList))=true:=by kernel_rfl
theorem L4:((Rows.fnFormsUptoRow.loops==(Tryz.f5.params.toList++(Rows.OpenSpec.upto Rows.fnFormsSpec).bare.plain.varTypes Tryz.pinned.checked.prog).any (Tryz.pinned.checked.prog.loopsFrom ·)))=true:=by kernel_rfl
theorem L3:((Rows.fnFormsUptoRow.wideKeys==(Tryz.f5.params.toList++(Rows.OpenSpec.upto Rows.fnFormsSpec).bare.plain.varTypes Tryz.pinned.checked.prog++Tryz.f5.resultTypes.toList).any (Tryz.pinned.checked.prog.wideKeysFrom ·)))=true:=by kernel_rfl
theorem L1:((Rows.OpenSpec.upto Rows.fnFormsSpec).bare.vars.all (Tryz.pinned.checked.prog.varReadable ·))=true:=by kernel_rfl
theorem Lz:(Tryz.f5.resultTypes.all (fun t=>Tryz.pinned.checked.prog.readableRec t&&decide (t<Tryz.pinned.checked.prog.types.size)))=true:=by kernel_rfl
theorem Ly:((Rows.fnFormsUptoRow.ifacesOut==Tryz.f5.resultTypes.toList.any (Tryz.pinned.checked.prog.ifacesRec ·)))=true:=by kernel_rfl
theorem Lx:((Rows.fnFormsUptoRow.loopsOut==Tryz.f5.resultTypes.toList.any (Tryz.pinned.checked.prog.loopsFrom ·)))=true:=by kernel_rfl
theorem Lw:((Rows.fnFormsUptoRow.plainKeys==Tryz.pinned.checked.prog.plainKeys))=true:=by kernel_rfl
theorem Lv:(Rows.fnFormsUptoRow.shortTexts.isNone)=true:=by kernel_rfl
theorem Lu:(Tryz.pinned.checked.prog.stopsHeard)=true:=by kernel_rfl
theorem Lt:(Tryz.pinned.checked.prog.mayEnter)=true:=by kernel_rfl
theorem Ls:((Rows.fnFormsUptoRow.lifted==Tryz.pinned.checked.prog.liftsFinal))=true:=by kernel_rfl
theorem Lr:((Tryz.pinned.checked.prog.make==some Rows.fnFormsUptoRow.make))=true:=by kernel_rfl
theorem Lq:((Rows.fnFormsUptoRow.kinds==(if Rows.fnFormsUptoRow.domain.isEmpty then [] else Tryz.f5.params.toList.map fun t=>match Tryz.pinned.checked.prog.underlying t with|some (.int k)=>some k|_=>none)))=true:=by kernel_rfl
theorem Lp:((Rows.fnFormsUptoRow.pinned==Rows.fnFormsUptoRow.pinnedBy))=true:=by kernel_rfl
theorem Lo:((Rows.fnFormsUptoRow.veiled==(Tryz.f5.params.toList++(Rows.OpenSpec.upto Rows.fnFormsSpec).bare.plain.varTypes Tryz.pinned.checked.prog++Tryz.f5.resultTypes.toList).any (Tryz.pinned.checked.prog.veiledRec ·)))=true:=by kernel_rfl
theorem Ln:(Rows.fnFormsUptoRow.veiledFits Tryz.pinned.checked.prog Tryz.f5.params.toList (Tryz.f5.params.toList++(Rows.OpenSpec.upto Rows.fnFormsSpec).bare.plain.varTypes Tryz.pinned.checked.prog++Tryz.f5.resultTypes.toList))=true:=by kernel_rfl
theorem Kb:joinedFacts Tryz.pinned.checked.prog 5 Tryz.f5 (Rows.OpenSpec.upto Rows.fnFormsSpec).bare Rows.fnFormsUptoRow=true:=by
 delta joinedFacts;exact Zl (Zl (Zl (Zl (Zl (Zl (Zl (Zl (Zl (Zl (Zl (Zl (Zl (Zl (Zl (Zl (Zl (Zl (Zl (Zl (Zl (Zl (Zl (Zl (Zl (Zl (Zl (Zl (Zl (Zl (Zl J0 Jz) Jy) Jx) Jw) Jv) Ju) Jt) Js) Jr) Ka) L9) L8) L7) L6) L5) L4) L3) L1) Lz) Ly) Lx) Lw) Lv) Lu) Lt) Ls) Lr) Lq) Lp) Lo) Ln
end Go.Proofs.YtoliamijgmifkaaGreatDoor
