/- A token of a row of the tokeni -/
import Derived.Test.YtlfoalomaofejaaGreatDoorC41
import Derived.Shelf.Bytes.WriteAny
import Derived.Shelf.Bytes.Len
import Derived.Shelf.Bytes.Bytes
set_option linter.all false
namespace Go.Proofs.YtlfoalomaofejaaGreatDoor
section
open Go.RowKit DT SS TR LT Go
theorem Znx{w wr:World}{B kd c n:Nat}{pu:Option Addr}{A:Option Addr}{ts:List Yw}{S:Nat->Prop}(h:w.ownsRow B 137 9 (.slice A n c) n (ts.flatMap (Yh kd pu)))(f:Fr S w wr)(hS:∀ j,B<=j->j<w.heap.size->¬ S j)(hn:n=ts.length)(i:Nat)(hi:i<ts.length) :
  ∃ g,A=some ⟨g,0,none⟩/\g<wr.heap.size/\∀ j (hj:j<9),wr.cell? ⟨g,i*9+j,none⟩=(Yh kd pu ts[i])[j]?:=by
 subst hn
 have hget:∀ j,j<9->∃ g,A=some ⟨g,0,none⟩/\wr.cell? ⟨g,i*9+j,none⟩=(Yh kd pu ts[i])[j]? /\ g<wr.heap.size:=λj hj=>by
  obtain⟨g,c',e,ec,hg⟩:=Vb h (i*9+j) Om;simp only[Value.slice.injEq]at e;obtain⟨rfl,_,rfl⟩:=e;rw[flat_get (Yh kd pu) 9 (λ_=>rfl) ts i j hi hj]at ec;have h9:j<(Yh kd pu ts[i]).length:=hj;rw[Ge h9]at ec⊢;have hgl:=lt_of_cell ec;exact⟨g,rfl,f.cell ec (hS g (Y1 (g:=g) h hg) hgl),Nat.lt_of_lt_of_le hgl f.size⟩
 obtain⟨g,rfl,_,hg⟩:=hget 0 Om;refine⟨g,rfl,hg,λj hj=>?_⟩;obtain⟨g',eg,e,_⟩:=hget j hj;cases eg;exact e
end
end Go.Proofs.YtlfoalomaofejaaGreatDoor
section
namespace Go.Proofs
open Go.Shelf
def YtlfoalomaofejaaGreatDoor.laysBWrite_ren:Go.Shelf.Ren:=⟨fun|180=>313|251=>315|252=>316|181=>49|184=>311|290=>317|324=>318|n=>n,fun|130=>108|37=>55|3=>3|75=>96|0=>0|93=>94|91=>92|131=>350|4=>4|20=>20|5=>5|80=>142|9=>9|n=>n,fun|14=>17|n=>n⟩
theorem YtlfoalomaofejaaGreatDoor.laysBWrite:Go.Proofs.LaysM.n180 Tryz.prog YtlfoalomaofejaaGreatDoor.laysBWrite_ren:={
 mixed:=Kr
 f180:=Tryz.func313.trans (congrArg some Kr)
 f181:=Tryz.func49.trans (congrArg some Kr)
 f184:=Tryz.func311.trans (congrArg some Kr)
 f251:=Tryz.func315.trans (congrArg some Kr)
 f252:=Tryz.func316.trans (congrArg some Kr)
 f290:=Tryz.func317.trans (congrArg some Kr)
 f324:=Tryz.func318.trans (congrArg some Kr)
 t0:=Tryz.underlying0
 a0:=Tryz.isAgg0
 z0:=Tryz.sizeOf0
 v0:=Tryz.zeroValue0
 t3:=Tryz.underlying3
 a3:=Tryz.isAgg3
 z3:=Tryz.sizeOf3
 v3:=Tryz.zeroValue3
 t4:=Tryz.underlying4
 a4:=Tryz.isAgg4
 z4:=Tryz.sizeOf4
 v4:=Tryz.zeroValue4
 t20:=Tryz.underlying20
 a20:=Tryz.isAgg20
 z20:=Tryz.sizeOf20
 v20:=Tryz.zeroValue20
 t37:=Tryz.underlying55
 a37:=Tryz.isAgg55
 z37:=Tryz.sizeOf55
 v37:=Tryz.zeroValue55
 t75:=Tryz.underlying96
 a75:=Tryz.isAgg96
 z75:=Tryz.sizeOf96
 v75:=Tryz.zeroValue96
 t91:=Tryz.underlying92
 a91:=Tryz.isAgg92
 z91:=Tryz.sizeOf92
 v91:=Tryz.zeroValue92
 t93:=Tryz.underlying94
 a93:=Tryz.isAgg94
 z93:=Tryz.sizeOf94
 v93:=Tryz.zeroValue94
 t130:=Tryz.underlying108
 a130:=Tryz.isAgg108
 z130:=Tryz.sizeOf108
 v130:=Tryz.zeroValue108
 t131:=Tryz.underlying350
 a131:=Tryz.isAgg350
 z131:=Tryz.sizeOf350
 v131:=Tryz.zeroValue350
 g14:=Kr
 t5:=Tryz.underlying5
 a5:=Tryz.isAgg5
 z5:=Tryz.sizeOf5
 v5:=Tryz.zeroValue5
 t9:=Tryz.underlying9
 a9:=Tryz.isAgg9
 z9:=Tryz.sizeOf9
 v9:=Tryz.zeroValue9
 t80:=Tryz.underlying142
 a80:=Tryz.isAgg142
 z80:=Tryz.sizeOf142
 v80:=Tryz.zeroValue142
 i0:=Kr
 i3:=Kr
 i4:=Kr
 i5:=Kr
 i9:=Kr
 i20:=Kr
 i37:=Kr
 i75:=Kr
 i80:=Kr
 i91:=Kr
 i93:=Kr
 i130:=Kr
 i131:=Kr
 m14:=by kernel_rfl }
def YtlfoalomaofejaaGreatDoor.laysBLen_ren:Go.Shelf.Ren:=⟨fun|181=>49|n=>n,fun|130=>108|3=>3|0=>0|93=>94|37=>55|91=>92|5=>5|n=>n,fun|n=>n⟩
theorem YtlfoalomaofejaaGreatDoor.laysBLen:Go.Proofs.LaysM.n181 Tryz.prog YtlfoalomaofejaaGreatDoor.laysBLen_ren:={
 mixed:=Kr
 f181:=Tryz.func49.trans (congrArg some Kr)
 t0:=Tryz.underlying0
 a0:=Tryz.isAgg0
 z0:=Tryz.sizeOf0
 v0:=Tryz.zeroValue0
 t3:=Tryz.underlying3
 a3:=Tryz.isAgg3
 z3:=Tryz.sizeOf3
 v3:=Tryz.zeroValue3
 t37:=Tryz.underlying55
 a37:=Tryz.isAgg55
 z37:=Tryz.sizeOf55
 v37:=Tryz.zeroValue55
 t93:=Tryz.underlying94
 a93:=Tryz.isAgg94
 z93:=Tryz.sizeOf94
 v93:=Tryz.zeroValue94
 t130:=Tryz.underlying108
 a130:=Tryz.isAgg108
 z130:=Tryz.sizeOf108
 v130:=Tryz.zeroValue108
 t5:=Tryz.underlying5
 a5:=Tryz.isAgg5
 z5:=Tryz.sizeOf5
 v5:=Tryz.zeroValue5
 t91:=Tryz.underlying92
 a91:=Tryz.isAgg92
 z91:=Tryz.sizeOf92
 v91:=Tryz.zeroValue92
 i0:=Kr
 i3:=Kr
 i5:=Kr
 i37:=Kr
 i91:=Kr
 i93:=Kr
 i130:=by kernel_rfl }
def YtlfoalomaofejaaGreatDoor.laysBBytes_ren:Go.Shelf.Ren:=⟨fun|183=>52|n=>n,fun|130=>108|37=>55|0=>0|93=>94|3=>3|5=>5|91=>92|n=>n,fun|n=>n⟩
theorem YtlfoalomaofejaaGreatDoor.laysBBytes:Go.Proofs.LaysM.n183 Tryz.prog YtlfoalomaofejaaGreatDoor.laysBBytes_ren:={
 mixed:=Kr
 f183:=Tryz.func52.trans (congrArg some Kr)
 t0:=Tryz.underlying0
 a0:=Tryz.isAgg0
 z0:=Tryz.sizeOf0
 v0:=Tryz.zeroValue0
 t3:=Tryz.underlying3
 a3:=Tryz.isAgg3
 z3:=Tryz.sizeOf3
 v3:=Tryz.zeroValue3
 t37:=Tryz.underlying55
 a37:=Tryz.isAgg55
 z37:=Tryz.sizeOf55
 v37:=Tryz.zeroValue55
 t93:=Tryz.underlying94
 a93:=Tryz.isAgg94
 z93:=Tryz.sizeOf94
 v93:=Tryz.zeroValue94
 t130:=Tryz.underlying108
 a130:=Tryz.isAgg108
 z130:=Tryz.sizeOf108
 v130:=Tryz.zeroValue108
 t5:=Tryz.underlying5
 a5:=Tryz.isAgg5
 z5:=Tryz.sizeOf5
 v5:=Tryz.zeroValue5
 t91:=Tryz.underlying92
 a91:=Tryz.isAgg92
 z91:=Tryz.sizeOf92
 v91:=Tryz.zeroValue92
 i0:=Kr
 i3:=Kr
 i5:=Kr
 i37:=Kr
 i91:=Kr
 i93:=Kr
 i130:=by kernel_rfl }
end Go.Proofs
end
