/- What the cards of this seat ha -/
import Derived.Test.YtoliamijgmifkaaGreatDoorCards
import Derived.Test.YtoliamijgmifkaaGreatDoorTie
import Derived.Test.YtoliamijgmifkaaGreatDoorH1
import Derived.ProofKit
import Derived.Carry
import Derived.Deep.DeepHandedRow
import Derived.Deep.DeepWitnessRowRef
import Derived.Lib.LaidIn
import Derived.Lib.LaidU8T
import Derived.Lib.LaidSlice
import Derived.PinnedBridge
import Derived.SevenTiedAt
import Derived.Shelf.Strings.TrimSpaceAny
import Derived.Shelf.Strings.OnBuilder
import Derived.Shelf.Strconv.Quote
import Derived.Shelf.Strconv.Itoa3
import Derived.Lib.PrintData
import Derived.Lib.LaidU8
import Derived.Lib.LaidPrint
set_option linter.all false
set_option maxRecDepth 1000000
namespace Go.Proofs.YtoliamijgmifkaaGreatDoor
section
open Go.ChangeShapes Go.WideShapes Go.ChangeAt Go.RowKit Go.Shelf
theorem Ja:ownKnob Tryz.prog.godebug=none:=Kr
theorem Jh:laidOutB Tryz.prog=true:=Kr
def Zfk:DataW Unit->Value
 | .lit (.int k n)=>.int k n
 | _=>undef
def rowOf:DataW Unit->Array Value
 | .slice ds _=>(ds.map Zfk).toArray
 | .agg ds=>(ds.flatMap λd=>match d with | .agg es=>es.map Zfk|d=>[Zfk d]).toArray
 | _=>#[]
noncomputable def Yj(os:Os):World :=
 let N:=(World.settled Tryz.prog os).heap.size
 let T:=Lib.goPrintTabs
 let sl (k n:Nat):Value:=.slice (some ⟨N+k,0,none⟩) n n
 let w0:=World.holding Tryz.prog os ⟨#[.cells (Lib.whiteT.map λ(z:Nat)=>Value.int .u16 (z:Int)).toArray 304,.cells #[.slice (some ⟨N,0,none⟩) 7 7,.slice none 0 0,.int .i64 2] 302,
  .cells (Lib.intCellsOf .u16 T.p16) 178,.cells (Lib.intCellsOf .u16 T.n16) 178,.cells (Lib.intCellsOf .u32 T.p32) 278,.cells (Lib.intCellsOf .u16 T.n32) 178,.cells (Lib.intCellsOf .u16 Pinned.isGraphicZ) 178],#[],[]⟩
 let put (h:Array Obj) (g:Nat) (cs:Array Value):Array Obj:=h.modify g fun
  | .cells _ t frozen=>.cells cs t frozen
  | o=>o
 { w0 with heap:=put (put (put (put (put (put (put (put (put (put (put (put w0.heap 0 (Lib.firstTab.map λz=>Value.int .u8 z).toArray) 1 (rowOf Rows.laid_unicode_utf8_acceptRanges)) 2 (rowOf Rows.laid_strings_asciiSpace))
   4 #[.pointer (some ⟨N+1,0,none⟩)]) 5 (rowOf Rows.laid_internal_strconv_uint64pow10)) 6 #[sl 2 T.p16.length]) 7 #[sl 3 T.n16.length]) 8 #[sl 4 T.p32.length]) 9 #[sl 5 T.n32.length]) 10 #[sl 6 Pinned.isGraphicZ.length])
   11 (rowOf Rows.laid_math_bits_deBruijn32tab)) 12 (rowOf Rows.laid_math_bits_deBruijn64tab) }
theorem Zm1{W:World}(h:laidMetH Tryz.prog Rows.fnWrongRow.laid W):U8 W:=by
 have h3:Lib.VarReads Tryz.prog W "unicode/utf8.first" Rows.laid_unicode_utf8_first:=Lib.laidMet.reads h (.tail _ (.tail _ (.tail _ (.tail _ (.tail _ (.tail _ (.tail _ (.tail _ (.tail _ (.tail _ (.tail _ (.head _))))))))))));have h4:Lib.VarReads Tryz.prog W "unicode/utf8.acceptRanges" Rows.laid_unicode_utf8_acceptRanges:=Lib.laidMet.reads h (.tail _ (.tail _ (.tail _ (.head _))));rw[show Rows.laid_unicode_utf8_first=Lib.firstData from Pinned.utf8First_eq]at h3;rw[(Kr:(Rows.laid_unicode_utf8_acceptRanges:DataW Unit)=Lib.acceptData)]at h4;exact utf8Tabs_of_readsT (U8Types.of196 laysValid) ⟨Kr,Kr,Kr,Kr,Kr,Kr,Kr⟩ h3 h4
noncomputable abbrev N0:Nat:=(World.settled Tryz.prog default).heap.size
theorem Zc1(os:Os)(args:Array Value):LaidIn Tryz.prog ((Yj os).forCall (λ_ _=>0) ⟨#[],args,[]⟩).memory (Rows.fnWrongRow.laid.take 6) [11,12,5,1,4,N0+1,N0,2] :=
 LaidIn.of_run [11,12,5,1,4,N0+1,N0,2] 10 Kr Kr Kr Kr
theorem Zc2(os:Os)(args:Array Value):LaidIn Tryz.prog ((Yj os).forCall (λ_ _=>0) ⟨#[],args,[]⟩).memory [("unicode/utf8.first",Rows.laid_unicode_utf8_first)] [0] :=
 LaidIn.of_run [0] 10 Kr Kr Kr Kr
theorem Zkx(os:Os)(args:Array Value):LaidIn Tryz.prog ((Yj os).forCall (λ_ _=>0) ⟨#[],args,[]⟩).memory [("strconv.isGraphic",Lib.sliceData .u16 Pinned.isGraphicZ)] [10,N0+6] :=
 Lib.laidIn_slice (t:=328) (e:=178) (te:=178) Pinned.isGraphicZ (N0+6) Kr Kr Kr Kr Kr Kr Kr Kr (of_decide_eq_true Kr) (of_decide_eq_true Kr)
theorem Ziu(os:Os)(args:Array Value):LaidIn Tryz.prog ((Yj os).forCall (λ_ _=>0) ⟨#[],args,[]⟩).memory [("strconv.isNotPrint16",Lib.sliceData .u16 Lib.goPrintTabs.n16)] [7,N0+3] :=
 Lib.laidIn_slice (t:=328) (e:=178) (te:=178) Lib.goPrintTabs.n16 (N0+3) Kr Kr Kr Kr Kr Kr Kr Kr (of_decide_eq_true Kr) (of_decide_eq_true Kr)
theorem Zit(os:Os)(args:Array Value):LaidIn Tryz.prog ((Yj os).forCall (λ_ _=>0) ⟨#[],args,[]⟩).memory [("strconv.isNotPrint32",Lib.sliceData .u16 Lib.goPrintTabs.n32)] [9,N0+5] :=
 Lib.laidIn_slice (t:=328) (e:=178) (te:=178) Lib.goPrintTabs.n32 (N0+5) Kr Kr Kr Kr Kr Kr Kr Kr (of_decide_eq_true Kr) (of_decide_eq_true Kr)
theorem Zis(os:Os)(args:Array Value):LaidIn Tryz.prog ((Yj os).forCall (λ_ _=>0) ⟨#[],args,[]⟩).memory [("strconv.isPrint16",Lib.sliceData .u16 Lib.goPrintTabs.p16)] [6,N0+2] :=
 Lib.laidIn_slice (t:=328) (e:=178) (te:=178) Lib.goPrintTabs.p16 (N0+2) Kr Kr Kr Kr Kr Kr Kr Kr (of_decide_eq_true Kr) (of_decide_eq_true Kr)
theorem Zir(os:Os)(args:Array Value):LaidIn Tryz.prog ((Yj os).forCall (λ_ _=>0) ⟨#[],args,[]⟩).memory [("strconv.isPrint32",Lib.sliceData .u32 Lib.goPrintTabs.p32)] [8,N0+4] :=
 Lib.laidIn_slice (t:=330) (e:=278) (te:=278) Lib.goPrintTabs.p32 (N0+4) Kr Kr Kr Kr Kr Kr Kr Kr (of_decide_eq_true Kr) (of_decide_eq_true Kr)
theorem Zcr:Rows.fnWrongRow.laid=Rows.fnWrongRow.laid.take 6++[("strconv.isGraphic",Lib.sliceData .u16 Pinned.isGraphicZ)]++[("strconv.isNotPrint16",Lib.sliceData .u16 Lib.goPrintTabs.n16)]++[("strconv.isNotPrint32",Lib.sliceData .u16 Lib.goPrintTabs.n32)]++[("strconv.isPrint16",Lib.sliceData .u16 Lib.goPrintTabs.p16)]++[("strconv.isPrint32",Lib.sliceData .u32 Lib.goPrintTabs.p32)]++[("unicode/utf8.first",Rows.laid_unicode_utf8_first)]:=by
 rw[<- Pinned.isPrint16_eq,<- Pinned.isPrint32_eq,<- Pinned.isNotPrint16_eq,<- Pinned.isNotPrint32_eq,(Kr:Lib.sliceData .u16 Pinned.isGraphicZ=Pinned.isGraphic)];rfl
theorem Ji(os:Os)(args:Array Value):laidMet Tryz.prog Rows.fnWrongRow.laid ((Yj os).forCall (λ_ _=>0) ⟨#[],args,[]⟩).memory:=by
 rw[Zcr];exact (((((((Zc1 os args).append (Zkx os args) Kr).append (Ziu os args) Kr).append (Zit os args) Kr).append (Zis os args) Kr).append (Zir os args) Kr).append (Zc2 os args) Kr).met
end
end Go.Proofs.YtoliamijgmifkaaGreatDoor
section
namespace Go.Proofs
open Go.Shelf
def YtoliamijgmifkaaGreatDoor.laysTrim_ren:Go.Shelf.Ren:=⟨fun|163=>101|237=>133|199=>134|238=>135|272=>156|261=>157|273=>158|197=>110|315=>175|311=>176|312=>177|271=>111|260=>138|120=>139|n=>n,fun|9=>9|37=>168|3=>3|0=>0|5=>5|4=>4|40=>258|119=>242|21=>21|51=>278|141=>280|105=>227|196=>302|193=>299|198=>304|49=>178|194=>300|201=>307|226=>326|46=>246|227=>327|139=>245|138=>244|n=>n,fun|0=>2|6=>4|3=>0|4=>1|n=>n⟩
theorem YtoliamijgmifkaaGreatDoor.laysTrim:Go.Proofs.Lays.n163 Tryz.prog YtoliamijgmifkaaGreatDoor.laysTrim_ren:={
 mixed:=Kr
 f120:=Tryz.func139.trans (congrArg some Kr)
 f163:=Tryz.func101.trans (congrArg some Kr)
 f197:=Tryz.func110.trans (congrArg some Kr)
 f199:=Tryz.func134.trans (congrArg some Kr)
 f237:=Tryz.func133.trans (congrArg some Kr)
 f238:=Tryz.func135.trans (congrArg some Kr)
 f260:=Tryz.func138.trans (congrArg some Kr)
 f261:=Tryz.func157.trans (congrArg some Kr)
 f271:=Tryz.func111.trans (congrArg some Kr)
 f272:=Tryz.func156.trans (congrArg some Kr)
 f273:=Tryz.func158.trans (congrArg some Kr)
 f311:=Tryz.func176.trans (congrArg some Kr)
 f312:=Tryz.func177.trans (congrArg some Kr)
 f315:=Tryz.func175.trans (congrArg some Kr)
 t0:=Tryz.underlying0
 a0:=Tryz.isAgg0
 z0:=Tryz.sizeOf0
 v0:=Tryz.zeroValue0
 t3:=Tryz.underlying3
 a3:=Tryz.isAgg3
 z3:=Tryz.sizeOf3
 v3:=Tryz.zeroValue3
 t4:=Tryz.underlying4
 a4:=Tryz.isAgg4
 z4:=Tryz.sizeOf4
 v4:=Tryz.zeroValue4
 t5:=Tryz.underlying5
 a5:=Tryz.isAgg5
 z5:=Tryz.sizeOf5
 v5:=Tryz.zeroValue5
 t9:=Tryz.underlying9
 a9:=Tryz.isAgg9
 z9:=Tryz.sizeOf9
 v9:=Tryz.zeroValue9
 t21:=Tryz.underlying21
 a21:=Tryz.isAgg21
 z21:=Tryz.sizeOf21
 v21:=Tryz.zeroValue21
 t37:=Tryz.underlying168
 a37:=Tryz.isAgg168
 z37:=Tryz.sizeOf168
 v37:=Tryz.zeroValue168
 t40:=Tryz.underlying258
 a40:=Tryz.isAgg258
 z40:=Tryz.sizeOf258
 v40:=Tryz.zeroValue258
 t46:=Tryz.underlying246
 a46:=Tryz.isAgg246
 z46:=Tryz.sizeOf246
 v46:=Tryz.zeroValue246
 t49:=Tryz.underlying178
 a49:=Tryz.isAgg178
 z49:=Tryz.sizeOf178
 v49:=Tryz.zeroValue178
 t51:=Tryz.underlying278
 a51:=Tryz.isAgg278
 z51:=Tryz.sizeOf278
 v51:=Tryz.zeroValue278
 t105:=Tryz.underlying227
 a105:=Tryz.isAgg227
 z105:=Tryz.sizeOf227
 v105:=Tryz.zeroValue227
 t119:=Tryz.underlying242
 a119:=Tryz.isAgg242
 z119:=Tryz.sizeOf242
 t138:=Tryz.underlying244
 a138:=Tryz.isAgg244
 z138:=Tryz.sizeOf244
 v138:=Tryz.zeroValue244
 t139:=Tryz.underlying245
 a139:=Tryz.isAgg245
 z139:=Tryz.sizeOf245
 v139:=Tryz.zeroValue245
 t141:=Tryz.underlying280
 a141:=Tryz.isAgg280
 z141:=Tryz.sizeOf280
 v141:=Tryz.zeroValue280
 t193:=Tryz.underlying299
 a193:=Tryz.isAgg299
 z193:=Tryz.sizeOf299
 v193:=Tryz.zeroValue299
 t194:=Tryz.underlying300
 a194:=Tryz.isAgg300
 z194:=Tryz.sizeOf300
 v194:=Tryz.zeroValue300
 t196:=Tryz.underlying302
 a196:=Tryz.isAgg302
 z196:=Tryz.sizeOf302
 v196:=Tryz.zeroValue302
 t198:=Tryz.underlying304
 a198:=Tryz.isAgg304
 z198:=Tryz.sizeOf304
 v198:=Tryz.zeroValue304
 t201:=Tryz.underlying307
 a201:=Tryz.isAgg307
 z201:=Tryz.sizeOf307
 v201:=Tryz.zeroValue307
 t226:=Tryz.underlying326
 a226:=Tryz.isAgg326
 z226:=Tryz.sizeOf326
 v226:=Tryz.zeroValue326
 t227:=Tryz.underlying327
 a227:=Tryz.isAgg327
 z227:=Tryz.sizeOf327
 v227:=Tryz.zeroValue327
 g0:=Kr
 g3:=Kr
 g4:=Kr
 g6:=by kernel_rfl }
def YtoliamijgmifkaaGreatDoor.laysJoin_ren:Go.Shelf.Ren:=⟨fun|156=>80|165=>116|166=>117|169=>118|240=>141|241=>142|276=>160|277=>161|n=>n,fun|31=>43|9=>9|3=>3|4=>4|0=>0|20=>20|72=>236|76=>238|70=>234|37=>168|75=>117|127=>264|164=>283|5=>5|80=>93|n=>n,fun|n=>n⟩
theorem YtoliamijgmifkaaGreatDoor.laysJoin:Go.Proofs.Lays.n156 Tryz.prog YtoliamijgmifkaaGreatDoor.laysJoin_ren:={
 mixed:=Kr
 f156:=Tryz.func80.trans (congrArg some Kr)
 f165:=Tryz.func116.trans (congrArg some Kr)
 f166:=Tryz.func117.trans (congrArg some Kr)
 f169:=Tryz.func118.trans (congrArg some Kr)
 f240:=Tryz.func141.trans (congrArg some Kr)
 f241:=Tryz.func142.trans (congrArg some Kr)
 f276:=Tryz.func160.trans (congrArg some Kr)
 f277:=Tryz.func161.trans (congrArg some Kr)
 t0:=Tryz.underlying0
 a0:=Tryz.isAgg0
 z0:=Tryz.sizeOf0
 v0:=Tryz.zeroValue0
 t3:=Tryz.underlying3
 a3:=Tryz.isAgg3
 z3:=Tryz.sizeOf3
 v3:=Tryz.zeroValue3
 t4:=Tryz.underlying4
 a4:=Tryz.isAgg4
 z4:=Tryz.sizeOf4
 v4:=Tryz.zeroValue4
 t9:=Tryz.underlying9
 a9:=Tryz.isAgg9
 z9:=Tryz.sizeOf9
 v9:=Tryz.zeroValue9
 t20:=Tryz.underlying20
 a20:=Tryz.isAgg20
 z20:=Tryz.sizeOf20
 v20:=Tryz.zeroValue20
 t31:=Tryz.underlying43
 a31:=Tryz.isAgg43
 z31:=Tryz.sizeOf43
 v31:=Tryz.zeroValue43
 t37:=Tryz.underlying168
 a37:=Tryz.isAgg168
 z37:=Tryz.sizeOf168
 v37:=Tryz.zeroValue168
 t70:=Tryz.underlying234
 a70:=Tryz.isAgg234
 z70:=Tryz.sizeOf234
 v70:=Tryz.zeroValue234
 t72:=Tryz.underlying236
 a72:=Tryz.isAgg236
 z72:=Tryz.sizeOf236
 v72:=Tryz.zeroValue236
 t75:=Tryz.underlying117
 a75:=Tryz.isAgg117
 z75:=Tryz.sizeOf117
 v75:=Tryz.zeroValue117
 t76:=Tryz.underlying238
 a76:=Tryz.isAgg238
 z76:=Tryz.sizeOf238
 v76:=Tryz.zeroValue238
 t127:=Tryz.underlying264
 a127:=Tryz.isAgg264
 z127:=Tryz.sizeOf264
 v127:=Tryz.zeroValue264
 t164:=Tryz.underlying283
 a164:=Tryz.isAgg283
 z164:=Tryz.sizeOf283
 v164:=Tryz.zeroValue283 }
def YtoliamijgmifkaaGreatDoor.laysQuote_ren:Go.Shelf.Ren:=⟨fun|177=>83|250=>120|289=>144|197=>110|323=>166|260=>138|339=>184|340=>185|242=>186|119=>187|345=>205|346=>206|278=>207|n=>n,fun|9=>9|5=>5|4=>4|3=>3|37=>168|21=>21|105=>227|46=>246|119=>242|0=>0|139=>245|138=>244|49=>178|234=>328|131=>57|51=>278|236=>330|n=>n,fun|3=>0|4=>1|20=>6|21=>7|22=>8|23=>9|24=>10|n=>n⟩
theorem YtoliamijgmifkaaGreatDoor.laysQuote:Go.Proofs.Lays.n177 Tryz.prog YtoliamijgmifkaaGreatDoor.laysQuote_ren:={
 mixed:=Kr
 f119:=Tryz.func187.trans (congrArg some Kr)
 f177:=Tryz.func83.trans (congrArg some Kr)
 f197:=Tryz.func110.trans (congrArg some Kr)
 f242:=Tryz.func186.trans (congrArg some Kr)
 f250:=Tryz.func120.trans (congrArg some Kr)
 f260:=Tryz.func138.trans (congrArg some Kr)
 f278:=Tryz.func207.trans (congrArg some Kr)
 f289:=Tryz.func144.trans (congrArg some Kr)
 f323:=Tryz.func166.trans (congrArg some Kr)
 f339:=Tryz.func184.trans (congrArg some Kr)
 f340:=Tryz.func185.trans (congrArg some Kr)
 f345:=Tryz.func205.trans (congrArg some Kr)
 f346:=Tryz.func206.trans (congrArg some Kr)
 t0:=Tryz.underlying0
 a0:=Tryz.isAgg0
 z0:=Tryz.sizeOf0
 v0:=Tryz.zeroValue0
 t3:=Tryz.underlying3
 a3:=Tryz.isAgg3
 z3:=Tryz.sizeOf3
 v3:=Tryz.zeroValue3
 t4:=Tryz.underlying4
 a4:=Tryz.isAgg4
 z4:=Tryz.sizeOf4
 v4:=Tryz.zeroValue4
 t5:=Tryz.underlying5
 a5:=Tryz.isAgg5
 z5:=Tryz.sizeOf5
 v5:=Tryz.zeroValue5
 t9:=Tryz.underlying9
 a9:=Tryz.isAgg9
 z9:=Tryz.sizeOf9
 v9:=Tryz.zeroValue9
 t21:=Tryz.underlying21
 a21:=Tryz.isAgg21
 z21:=Tryz.sizeOf21
 v21:=Tryz.zeroValue21
 t37:=Tryz.underlying168
 a37:=Tryz.isAgg168
 z37:=Tryz.sizeOf168
 v37:=Tryz.zeroValue168
 t46:=Tryz.underlying246
 a46:=Tryz.isAgg246
 z46:=Tryz.sizeOf246
 v46:=Tryz.zeroValue246
 t49:=Tryz.underlying178
 a49:=Tryz.isAgg178
 z49:=Tryz.sizeOf178
 v49:=Tryz.zeroValue178
 t51:=Tryz.underlying278
 a51:=Tryz.isAgg278
 z51:=Tryz.sizeOf278
 v51:=Tryz.zeroValue278
 t105:=Tryz.underlying227
 a105:=Tryz.isAgg227
 z105:=Tryz.sizeOf227
 v105:=Tryz.zeroValue227
 t119:=Tryz.underlying242
 a119:=Tryz.isAgg242
 z119:=Tryz.sizeOf242
 t131:=Tryz.underlying57
 a131:=Tryz.isAgg57
 z131:=Tryz.sizeOf57
 v131:=Tryz.zeroValue57
 t138:=Tryz.underlying244
 a138:=Tryz.isAgg244
 z138:=Tryz.sizeOf244
 v138:=Tryz.zeroValue244
 t139:=Tryz.underlying245
 a139:=Tryz.isAgg245
 z139:=Tryz.sizeOf245
 v139:=Tryz.zeroValue245
 t234:=Tryz.underlying328
 a234:=Tryz.isAgg328
 z234:=Tryz.sizeOf328
 v234:=Tryz.zeroValue328
 t236:=Tryz.underlying330
 a236:=Tryz.isAgg330
 z236:=Tryz.sizeOf330
 v236:=Tryz.zeroValue330
 g3:=Kr
 g4:=Kr
 g20:=Kr
 g21:=Kr
 g22:=Kr
 g23:=Kr
 g24:=by kernel_rfl }
def YtoliamijgmifkaaGreatDoor.laysItoa_ren:Go.Shelf.Ren:=⟨fun|171=>82|243=>119|246=>143|283=>162|284=>163|285=>164|286=>165|129=>180|317=>179|318=>181|319=>182|320=>183|337=>203|338=>204|n=>n,fun|3=>3|9=>9|2=>2|4=>4|171=>286|0=>0|53=>267|37=>168|5=>5|173=>289|212=>315|51=>278|20=>20|213=>316|46=>246|232=>338|233=>339|n=>n,fun|17=>5|18=>11|19=>12|n=>n⟩
theorem YtoliamijgmifkaaGreatDoor.laysItoa:Go.Proofs.LaysM.n171 Tryz.prog YtoliamijgmifkaaGreatDoor.laysItoa_ren:={
 mixed:=Kr
 f129:=Tryz.func180.trans (congrArg some Kr)
 f171:=Tryz.func82.trans (congrArg some Kr)
 f243:=Tryz.func119.trans (congrArg some Kr)
 f246:=Tryz.func143.trans (congrArg some Kr)
 f283:=Tryz.func162.trans (congrArg some Kr)
 f284:=Tryz.func163.trans (congrArg some Kr)
 f285:=Tryz.func164.trans (congrArg some Kr)
 f286:=Tryz.func165.trans (congrArg some Kr)
 f317:=Tryz.func179.trans (congrArg some Kr)
 f318:=Tryz.func181.trans (congrArg some Kr)
 f319:=Tryz.func182.trans (congrArg some Kr)
 f320:=Tryz.func183.trans (congrArg some Kr)
 f337:=Tryz.func203.trans (congrArg some Kr)
 f338:=Tryz.func204.trans (congrArg some Kr)
 t0:=Tryz.underlying0
 a0:=Tryz.isAgg0
 z0:=Tryz.sizeOf0
 v0:=Tryz.zeroValue0
 t2:=Tryz.underlying2
 a2:=Tryz.isAgg2
 z2:=Tryz.sizeOf2
 v2:=Tryz.zeroValue2
 t3:=Tryz.underlying3
 a3:=Tryz.isAgg3
 z3:=Tryz.sizeOf3
 v3:=Tryz.zeroValue3
 t4:=Tryz.underlying4
 a4:=Tryz.isAgg4
 z4:=Tryz.sizeOf4
 v4:=Tryz.zeroValue4
 t5:=Tryz.underlying5
 a5:=Tryz.isAgg5
 z5:=Tryz.sizeOf5
 v5:=Tryz.zeroValue5
 t9:=Tryz.underlying9
 a9:=Tryz.isAgg9
 z9:=Tryz.sizeOf9
 v9:=Tryz.zeroValue9
 t20:=Tryz.underlying20
 a20:=Tryz.isAgg20
 z20:=Tryz.sizeOf20
 v20:=Tryz.zeroValue20
 t37:=Tryz.underlying168
 a37:=Tryz.isAgg168
 z37:=Tryz.sizeOf168
 v37:=Tryz.zeroValue168
 t46:=Tryz.underlying246
 a46:=Tryz.isAgg246
 z46:=Tryz.sizeOf246
 v46:=Tryz.zeroValue246
 t51:=Tryz.underlying278
 a51:=Tryz.isAgg278
 z51:=Tryz.sizeOf278
 v51:=Tryz.zeroValue278
 t53:=Tryz.underlying267
 a53:=Tryz.isAgg267
 z53:=Tryz.sizeOf267
 v53:=Tryz.zeroValue267
 t171:=Tryz.underlying286
 a171:=Tryz.isAgg286
 z171:=Tryz.sizeOf286
 v171:=Tryz.zeroValue286
 t173:=Tryz.underlying289
 a173:=Tryz.isAgg289
 z173:=Tryz.sizeOf289
 v173:=Tryz.zeroValue289
 t212:=Tryz.underlying315
 a212:=Tryz.isAgg315
 z212:=Tryz.sizeOf315
 v212:=Tryz.zeroValue315
 t213:=Tryz.underlying316
 a213:=Tryz.isAgg316
 z213:=Tryz.sizeOf316
 t232:=Tryz.underlying338
 a232:=Tryz.isAgg338
 z232:=Tryz.sizeOf338
 v232:=Tryz.zeroValue338
 t233:=Tryz.underlying339
 a233:=Tryz.isAgg339
 z233:=Tryz.sizeOf339
 v233:=Tryz.zeroValue339
 g17:=Kr
 g18:=Kr
 g19:=Kr
 i0:=Kr
 i2:=Kr
 i3:=Kr
 i4:=Kr
 i5:=Kr
 i9:=Kr
 i20:=Kr
 i37:=Kr
 i46:=Kr
 i51:=Kr
 i53:=Kr
 i171:=Kr
 i173:=Kr
 i212:=Kr
 i232:=Kr
 i233:=Kr
 m17:=Kr
 m18:=Kr
 m19:=by kernel_rfl }
end Go.Proofs
end
namespace Go.Proofs.YtoliamijgmifkaaGreatDoor
section
open Go.RowKit Go.Shelf
def Di(w:World):Prop:=∀ w',Zg w w'->U8 w'/\Lib.TabIs Tryz.prog w' "strings.asciiSpace" .u8 Lib.asciiSpaceTab/\Lib.WhiteTab 4 w'/\Lib.PrintTabsAt 6 7 8 9 Lib.goPrintTabs w'/\Lib.TabIs Tryz.prog w' "internal/strconv.uint64pow10" .u64 Lib.pow10Tab
theorem Di.ext{w w':World}(h:Di w)(f:Zg w w'):Di w':=λw2 f2=>h w2 (f.then f2)
theorem Di.u8{w:World}(h:Di w):U8 w:=(h w (Fl w)).1
theorem Zjw(s:ByteArray)(w:World)(hs:s.size<=9223372036854775807)(hT:Di w):Calls Tryz.prog 101 #[.string s] w λe w'=>e=.returned (.string ⟨(Lib.trimSpaceD s.data.toList).toArray⟩)/\Zg w w':=by
 obtain⟨h1,h2,h3,_⟩:=hT w (Fl w);exact (Any.strings_TrimSpace_any laysTrim ⟨Kr⟩ s w hs h2 h1 h3).mono λ_ _ h=>⟨h.1,Fr.of_below h.2⟩
theorem Zim(s:ByteArray)(w:World)(hs:s.size<=1000000000)(hT:Di w):Calls Tryz.prog 83 #[.string s] w λe w'=>e=.returned (.string (strOfNums (Lib.quoteZ Lib.goPrintTabs s)))/\Zg w w':=by
 obtain⟨h1,_,_,h4,_⟩:=hT w (Fl w);exact (Any.strconv_Quote laysQuote Kr Lib.goPrintTabs s w Om h4 h1).mono λ_ _ h=>⟨h.1,Fr.of_below h.2⟩
theorem N8(n:Int)(w:World)(h0:-9223372036854775808<=n)(h1:n<=9223372036854775807)(hT:Di w):Calls Tryz.prog 82 #[.int .i64 n] w λe w'=>e=.returned (.string ⟨(Lib.itoa n).toArray⟩)/\Zg w w':=by
 refine (Any.strconv_Itoa laysItoa n h0 h1 w (hT w (Fl w)).2.2.2.2).mono ?_;rintro e w' ⟨he,k,os,rfl⟩;exact⟨he,rfl,rfl,rfl,by rw[Sort.size_grow];exact Nat.le_add_right _ _,λj hj _=>Sort.heap_grow_old _ _ hj⟩
theorem Zlb(bk o c:Nat)(xs:List ByteArray)(sep:ByteArray)(w:World)(hc:∀ (j:Nat) x,xs[j]?=some x->w.cell? ⟨bk,o+j,none⟩=some (.string x))(hbk:bk<w.heap.size)(hN:xs.length<=140737488355328)(hcap:xs.length<=c)
  (hlen:(Lib.join (xs.map (·.data.toList)) sep.data.toList).length<=140737488355328) :
  Calls Tryz.prog 80 #[.slice (some ⟨bk,o,none⟩) xs.length c,.string sep] w λe w'=>e=.returned (.string ⟨(Lib.join (xs.map (·.data.toList)) sep.data.toList).toArray⟩)/\Zg w w' :=
 (Any.strings_Join laysJoin ⟨⟨Kr,Kr⟩,laysQuote.t5,laysQuote.a5,laysQuote.z5,laysQuote.v5,Kr,Kr,Kr,by decide⟩ bk o c xs sep w hc hbk hN hcap hlen).mono λ_ _ h=>⟨h.1,Fr.of_below h.2⟩
end
section
open Go.ChangeShapes Go.WideShapes Go.ChangeAt Go.RowKit Go.Shelf
theorem Nu{P:Program}{W:World}{name:String}{k:IntKind}{zs:List Int}{g:Nat}{t e:TypeId}{n:Nat}(hg:P.globalNamed name=some g)(hty:(P.globals[g]?).map (·.type)=some t)(ht:P.underlying t=some (.array n e))(he:P.underlying e=some (.int k))(hce:P.cellsOf e=1)(hct:P.cellsOf t=n)
  (h:Lib.VarReads P W name (Lib.tabData k zs)):Lib.TabIs P W name k zs:=by
 obtain⟨g',t',cs,fuel,p,hg',ht',hvar,hd⟩:=h;obtain rfl:=Option.some.inj (hg.symm.trans hg');obtain rfl:=Option.some.inj (hty.symm.trans ht');unfold Lib.TabIs;rw[hvar,<- Lib.cells_of_tab ht he hce hct hd]
theorem Znt:Lays.n199 Tryz.prog laysTrim_ren:={ laysTrim with }
theorem Zak{W:World}(h:laidMetH Tryz.prog Rows.fnWrongRow.laid W):Di W:=by
  have u:=Zm1 h;have h0:laidMet Tryz.prog Rows.fnWrongRow.laid W:=h;rw[Zcr]at h0
  have in1:∀ {x:String×DataW Unit},x∈[("strconv.isNotPrint16",Lib.sliceData .u16 Lib.goPrintTabs.n16),("strconv.isNotPrint32",Lib.sliceData .u16 Lib.goPrintTabs.n32),("strconv.isPrint16",Lib.sliceData .u16 Lib.goPrintTabs.p16),("strconv.isPrint32",Lib.sliceData .u32 Lib.goPrintTabs.p32)]->Lib.VarReads Tryz.prog W x.1 x.2:=λhx=>Lib.laidMet.reads h0 (by
    simp only[List.mem_cons,List.mem_nil_iff,or_false]at hx;simp only[List.mem_append,List.mem_singleton]
    rcases hx with rfl|rfl|rfl|rfl<;>simp)
  have ha:Lib.TabIs Tryz.prog W "strings.asciiSpace" .u8 Lib.asciiSpaceTab:=Nu (g:=2) (t:=242) (e:=5) (n:=256) Kr Kr Kr Kr Kr Kr (by
    rw[<- (Kr:(Rows.laid_strings_asciiSpace:DataW Unit)=Lib.tabData .u8 Lib.asciiSpaceTab)]
    exact Lib.laidMet.reads h (.tail _ (.tail _ (.tail _ (.tail _ (.tail _ (.head _)))))))
  have hp:Lib.TabIs Tryz.prog W "internal/strconv.uint64pow10" .u64 Lib.pow10Tab:=Nu (g:=5) (t:=315) (e:=267) (n:=20) Kr Kr Kr Kr Kr Kr (by
    rw[<- (Kr:(Rows.laid_internal_strconv_uint64pow10:DataW Unit)=Lib.tabData .u64 Lib.pow10Tab)]
    exact Lib.laidMet.reads h (.tail _ (.tail _ (.head _))))
  have hw:Lib.WhiteTab 4 W:=whiteTab_of_reads Znt ⟨Kr,Kr,Kr,Kr,Kr,Kr,Kr,Kr⟩ (by
    rw[<- (Kr:(Rows.laid_unicode_White_Space:DataW Unit)=Lib.whiteData)]
    exact Lib.laidMet.reads h (.tail _ (.tail _ (.tail _ (.tail _ (.head _))))))
  have hpr:Lib.PrintTabsAt 6 7 8 9 Lib.goPrintTabs W :=
    ⟨Lib.tabSlice_of_reads (t:=328) (e:=178) Kr Kr Kr Kr Kr (of_decide_eq_true Kr) (in1 (.tail _ (.tail _ (.head _)))),Lib.tabSlice_of_reads (t:=328) (e:=178) Kr Kr Kr Kr Kr (of_decide_eq_true Kr) (in1 (.head _)),
     Lib.tabSlice_of_reads (t:=330) (e:=278) Kr Kr Kr Kr Kr (of_decide_eq_true Kr) (in1 (.tail _ (.tail _ (.tail _ (.head _))))),Lib.tabSlice_of_reads (t:=328) (e:=178) Kr Kr Kr Kr Kr (of_decide_eq_true Kr) (in1 (.tail _ (.head _))),
     of_decide_eq_true Kr,of_decide_eq_true Kr,of_decide_eq_true Kr⟩
  intro w' f;have bel:=Fr.below f;exact⟨u.ext f,Joins.tab_stays (g:=2) Kr ha bel (Nl _),WhiteTab_below hw bel,printTabs_below hpr bel,Joins.tab_stays (g:=5) Kr hp bel (Nl _)⟩
end
end Go.Proofs.YtoliamijgmifkaaGreatDoor
