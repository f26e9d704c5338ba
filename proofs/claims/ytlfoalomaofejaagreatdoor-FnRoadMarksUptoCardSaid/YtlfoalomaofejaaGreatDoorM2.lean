/- What the cards of this seat ha -/
import Derived.Test.YtlfoalomaofejaaGreatDoorCards
import Derived.Test.YtlfoalomaofejaaGreatDoorTie
import Derived.Test.YtlfoalomaofejaaGreatDoorM1
import Derived.ProofKit
import Derived.Carry
import Derived.Deep.DeepHandedRow
import Derived.Deep.DeepWitnessRowRef
import Derived.Lib.LaidIn
import Derived.Lib.LaidU8T
import Derived.Lib.LaidSlice
import Derived.PinnedBridge
import Derived.SevenTiedAt
import Derived.Shelf.Strings.TrimSpaceAny
import Derived.Shelf.Strings.OnBuilder
import Derived.Shelf.Strconv.Quote
import Derived.Shelf.Strconv.Itoa3
import Derived.Lib.PrintData
import Derived.Lib.LaidU8
import Derived.Lib.LaidPrint
set_option linter.all false
set_option maxRecDepth 1000000
namespace Go.Proofs.YtlfoalomaofejaaGreatDoor
section
open Go.ChangeShapes Go.WideShapes Go.ChangeAt Go.RowKit Go.Shelf
theorem Zi4:ownKnob Tryz.prog.godebug=none:=Kr
theorem Zjl:laidOutB Tryz.prog=true:=Kr
def Zdf:DataW Unit->Value
 | .lit (.int k n)=>.int k n
 | _=>undef
def rowOf:DataW Unit->Array Value
 | .slice ds _=>(ds.map Zdf).toArray
 | .agg ds=>(ds.flatMap λd=>match d with | .agg es=>es.map Zdf|d=>[Zdf d]).toArray
 | _=>#[]
noncomputable def Wd(os:Os):World :=
 let N:=(World.settled Tryz.prog os).heap.size
 let T:=Lib.goPrintTabs
 let q (k n:Nat):Value:=.slice (some ⟨N+k,0,none⟩) n n
 let G:=World.holding Tryz.prog os ⟨#[.cells (Lib.whiteT.map λ(z:Nat)=>Value.int .u16 (z:Int)).toArray 414,.cells #[.slice (some ⟨N,0,none⟩) 7 7,.slice none 0 0,.int .i64 2] 412,
  .cells (Lib.intCellsOf .u16 T.p16) 228,.cells (Lib.intCellsOf .u16 T.n16) 228,.cells (Lib.intCellsOf .u32 T.p32) 353,.cells (Lib.intCellsOf .u16 T.n32) 228,.cells (Lib.intCellsOf .u16 Pinned.isGraphicZ) 228,
  .cells #[.string ⟨#[115,104,111,114,116,32,98,117,102,102,101,114]⟩] 252,.cells #[.string ⟨#[69,79,70]⟩] 252,.cells #[.string ⟨#[117,110,101,120,112,101,99,116,101,100,32,69,79,70]⟩] 252],#[],[]⟩
 let put (h:Array Obj) (g:Nat) (cs:Array Value):Array Obj:=h.modify g fun
  | .cells _ t frozen=>.cells cs t frozen
  | o=>o
 let A (k:Nat):Value:=.iface 250 (.pointer (some ⟨N+k,0,none⟩))
 { G with heap:=put (put (put (put (put (put (put (put (put (put (put (put (put (put (put G.heap 1 (Lib.firstTab.map λz=>Value.int .u8 z).toArray) 2 (rowOf Rows.laid_unicode_utf8_acceptRanges)) 3 (rowOf Rows.laid_strings_asciiSpace))
   7 #[.pointer (some ⟨N+1,0,none⟩)]) 8 (rowOf Rows.laid_internal_strconv_uint64pow10)) 9 #[q 2 T.p16.length]) 10 #[q 3 T.n16.length]) 11 #[q 4 T.p32.length]) 12 #[q 5 T.n32.length]) 13 #[q 6 Pinned.isGraphicZ.length])
   14 (rowOf Rows.laid_math_bits_deBruijn32tab)) 15 (rowOf Rows.laid_math_bits_deBruijn64tab)) 4 #[A 7]) 0 #[A 8]) 5 #[A 9] }
theorem Zlg{W:World}(h:laidMetH Tryz.prog Rows.fnRoadMarksRow.laid W):U8 W:=by
 have h3:Lib.VarReads Tryz.prog W "unicode/utf8.first" Rows.laid_unicode_utf8_first:=Lib.laidMet.reads h (.tail _ (.tail _ (.tail _ (.tail _ (.tail _ (.tail _ (.tail _ (.tail _ (.tail _ (.tail _ (.tail _ (.tail _ (.tail _ (.tail _ (.head _)))))))))))))));have h4:Lib.VarReads Tryz.prog W "unicode/utf8.acceptRanges" Rows.laid_unicode_utf8_acceptRanges:=Lib.laidMet.reads h (.tail _ (.tail _ (.tail _ (.head _))));rw[show Rows.laid_unicode_utf8_first=Lib.firstData from Pinned.utf8First_eq]at h3;rw[(Kr:(Rows.laid_unicode_utf8_acceptRanges:DataW Unit)=Lib.acceptData)]at h4;exact utf8Tabs_of_readsT (U8Types.of196 laysValid) ⟨Kr,Kr,Kr,Kr,Kr,Kr,Kr⟩ h3 h4
noncomputable abbrev N0:Nat:=(World.settled Tryz.prog default).heap.size
theorem Zar(os:Os)(args:Array Value):LaidIn Tryz.prog ((Wd os).forCall (λ_ _=>0) ⟨#[],args,[]⟩).memory (Rows.fnRoadMarksRow.laid.take 9) [14,15,8,2,4,N0+7,0,N0+8,5,N0+9,7,N0+1,N0,3] :=
 LaidIn.of_run [14,15,8,2,4,N0+7,0,N0+8,5,N0+9,7,N0+1,N0,3] 10 Kr Kr Kr Kr
theorem Zas(os:Os)(args:Array Value):LaidIn Tryz.prog ((Wd os).forCall (λ_ _=>0) ⟨#[],args,[]⟩).memory [("unicode/utf8.first",Rows.laid_unicode_utf8_first)] [1] :=
 LaidIn.of_run [1] 10 Kr Kr Kr Kr
theorem Zi2(os:Os)(args:Array Value):LaidIn Tryz.prog ((Wd os).forCall (λ_ _=>0) ⟨#[],args,[]⟩).memory [("strconv.isGraphic",Lib.sliceData .u16 Pinned.isGraphicZ)] [13,N0+6] :=
 Lib.laidIn_slice (t:=423) (e:=228) (te:=228) Pinned.isGraphicZ (N0+6) Kr Kr Kr Kr Kr Kr Kr Kr (of_decide_eq_true Kr) (of_decide_eq_true Kr)
theorem Zgu(os:Os)(args:Array Value):LaidIn Tryz.prog ((Wd os).forCall (λ_ _=>0) ⟨#[],args,[]⟩).memory [("strconv.isNotPrint16",Lib.sliceData .u16 Lib.goPrintTabs.n16)] [10,N0+3] :=
 Lib.laidIn_slice (t:=423) (e:=228) (te:=228) Lib.goPrintTabs.n16 (N0+3) Kr Kr Kr Kr Kr Kr Kr Kr (of_decide_eq_true Kr) (of_decide_eq_true Kr)
theorem Zgt(os:Os)(args:Array Value):LaidIn Tryz.prog ((Wd os).forCall (λ_ _=>0) ⟨#[],args,[]⟩).memory [("strconv.isNotPrint32",Lib.sliceData .u16 Lib.goPrintTabs.n32)] [12,N0+5] :=
 Lib.laidIn_slice (t:=423) (e:=228) (te:=228) Lib.goPrintTabs.n32 (N0+5) Kr Kr Kr Kr Kr Kr Kr Kr (of_decide_eq_true Kr) (of_decide_eq_true Kr)
theorem Zgs(os:Os)(args:Array Value):LaidIn Tryz.prog ((Wd os).forCall (λ_ _=>0) ⟨#[],args,[]⟩).memory [("strconv.isPrint16",Lib.sliceData .u16 Lib.goPrintTabs.p16)] [9,N0+2] :=
 Lib.laidIn_slice (t:=423) (e:=228) (te:=228) Lib.goPrintTabs.p16 (N0+2) Kr Kr Kr Kr Kr Kr Kr Kr (of_decide_eq_true Kr) (of_decide_eq_true Kr)
theorem Zgr(os:Os)(args:Array Value):LaidIn Tryz.prog ((Wd os).forCall (λ_ _=>0) ⟨#[],args,[]⟩).memory [("strconv.isPrint32",Lib.sliceData .u32 Lib.goPrintTabs.p32)] [11,N0+4] :=
 Lib.laidIn_slice (t:=425) (e:=353) (te:=353) Lib.goPrintTabs.p32 (N0+4) Kr Kr Kr Kr Kr Kr Kr Kr (of_decide_eq_true Kr) (of_decide_eq_true Kr)
theorem Zae:Rows.fnRoadMarksRow.laid=Rows.fnRoadMarksRow.laid.take 9++[("strconv.isGraphic",Lib.sliceData .u16 Pinned.isGraphicZ)]++[("strconv.isNotPrint16",Lib.sliceData .u16 Lib.goPrintTabs.n16)]++[("strconv.isNotPrint32",Lib.sliceData .u16 Lib.goPrintTabs.n32)]++[("strconv.isPrint16",Lib.sliceData .u16 Lib.goPrintTabs.p16)]++[("strconv.isPrint32",Lib.sliceData .u32 Lib.goPrintTabs.p32)]++[("unicode/utf8.first",Rows.laid_unicode_utf8_first)]:=by
 rw[<- Pinned.isPrint16_eq,<- Pinned.isPrint32_eq,<- Pinned.isNotPrint16_eq,<- Pinned.isNotPrint32_eq,(Kr:Lib.sliceData .u16 Pinned.isGraphicZ=Pinned.isGraphic)];rfl
theorem Zjm(os:Os)(args:Array Value):laidMet Tryz.prog Rows.fnRoadMarksRow.laid ((Wd os).forCall (λ_ _=>0) ⟨#[],args,[]⟩).memory:=by
 rw[Zae];exact (((((((Zar os args).append (Zi2 os args) Kr).append (Zgu os args) Kr).append (Zgt os args) Kr).append (Zgs os args) Kr).append (Zgr os args) Kr).append (Zas os args) Kr).met
end
end Go.Proofs.YtlfoalomaofejaaGreatDoor
section
namespace Go.Proofs
open Go.Shelf
def YtlfoalomaofejaaGreatDoor.laysTrim_ren:Go.Shelf.Ren:=⟨fun|163=>187|237=>232|199=>233|238=>234|272=>264|261=>265|273=>266|197=>196|315=>281|311=>282|312=>283|271=>197|260=>237|120=>238|n=>n,fun|9=>9|37=>55|3=>3|0=>0|5=>5|4=>4|40=>370|119=>267|21=>21|51=>353|141=>394|105=>336|196=>412|193=>409|198=>414|49=>228|194=>410|201=>417|226=>427|46=>271|227=>428|139=>270|138=>269|n=>n,fun|0=>3|6=>7|3=>1|4=>2|n=>n⟩
theorem YtlfoalomaofejaaGreatDoor.laysTrim:Go.Proofs.Lays.n163 Tryz.prog YtlfoalomaofejaaGreatDoor.laysTrim_ren:={
 mixed:=Kr
 f120:=Tryz.func238.trans (congrArg some Kr)
 f163:=Tryz.func187.trans (congrArg some Kr)
 f197:=Tryz.func196.trans (congrArg some Kr)
 f199:=Tryz.func233.trans (congrArg some Kr)
 f237:=Tryz.func232.trans (congrArg some Kr)
 f238:=Tryz.func234.trans (congrArg some Kr)
 f260:=Tryz.func237.trans (congrArg some Kr)
 f261:=Tryz.func265.trans (congrArg some Kr)
 f271:=Tryz.func197.trans (congrArg some Kr)
 f272:=Tryz.func264.trans (congrArg some Kr)
 f273:=Tryz.func266.trans (congrArg some Kr)
 f311:=Tryz.func282.trans (congrArg some Kr)
 f312:=Tryz.func283.trans (congrArg some Kr)
 f315:=Tryz.func281.trans (congrArg some Kr)
 t0:=Tryz.underlying0
 a0:=Tryz.isAgg0
 z0:=Tryz.sizeOf0
 v0:=Tryz.zeroValue0
 t3:=Tryz.underlying3
 a3:=Tryz.isAgg3
 z3:=Tryz.sizeOf3
 v3:=Tryz.zeroValue3
 t4:=Tryz.underlying4
 a4:=Tryz.isAgg4
 z4:=Tryz.sizeOf4
 v4:=Tryz.zeroValue4
 t5:=Tryz.underlying5
 a5:=Tryz.isAgg5
 z5:=Tryz.sizeOf5
 v5:=Tryz.zeroValue5
 t9:=Tryz.underlying9
 a9:=Tryz.isAgg9
 z9:=Tryz.sizeOf9
 v9:=Tryz.zeroValue9
 t21:=Tryz.underlying21
 a21:=Tryz.isAgg21
 z21:=Tryz.sizeOf21
 v21:=Tryz.zeroValue21
 t37:=Tryz.underlying55
 a37:=Tryz.isAgg55
 z37:=Tryz.sizeOf55
 v37:=Tryz.zeroValue55
 t40:=Tryz.underlying370
 a40:=Tryz.isAgg370
 z40:=Tryz.sizeOf370
 v40:=Tryz.zeroValue370
 t46:=Tryz.underlying271
 a46:=Tryz.isAgg271
 z46:=Tryz.sizeOf271
 v46:=Tryz.zeroValue271
 t49:=Tryz.underlying228
 a49:=Tryz.isAgg228
 z49:=Tryz.sizeOf228
 v49:=Tryz.zeroValue228
 t51:=Tryz.underlying353
 a51:=Tryz.isAgg353
 z51:=Tryz.sizeOf353
 v51:=Tryz.zeroValue353
 t105:=Tryz.underlying336
 a105:=Tryz.isAgg336
 z105:=Tryz.sizeOf336
 v105:=Tryz.zeroValue336
 t119:=Tryz.underlying267
 a119:=Tryz.isAgg267
 z119:=Tryz.sizeOf267
 t138:=Tryz.underlying269
 a138:=Tryz.isAgg269
 z138:=Tryz.sizeOf269
 v138:=Tryz.zeroValue269
 t139:=Tryz.underlying270
 a139:=Tryz.isAgg270
 z139:=Tryz.sizeOf270
 v139:=Tryz.zeroValue270
 t141:=Tryz.underlying394
 a141:=Tryz.isAgg394
 z141:=Tryz.sizeOf394
 v141:=Tryz.zeroValue394
 t193:=Tryz.underlying409
 a193:=Tryz.isAgg409
 z193:=Tryz.sizeOf409
 v193:=Tryz.zeroValue409
 t194:=Tryz.underlying410
 a194:=Tryz.isAgg410
 z194:=Tryz.sizeOf410
 v194:=Tryz.zeroValue410
 t196:=Tryz.underlying412
 a196:=Tryz.isAgg412
 z196:=Tryz.sizeOf412
 v196:=Tryz.zeroValue412
 t198:=Tryz.underlying414
 a198:=Tryz.isAgg414
 z198:=Tryz.sizeOf414
 v198:=Tryz.zeroValue414
 t201:=Tryz.underlying417
 a201:=Tryz.isAgg417
 z201:=Tryz.sizeOf417
 v201:=Tryz.zeroValue417
 t226:=Tryz.underlying427
 a226:=Tryz.isAgg427
 z226:=Tryz.sizeOf427
 v226:=Tryz.zeroValue427
 t227:=Tryz.underlying428
 a227:=Tryz.isAgg428
 z227:=Tryz.sizeOf428
 v227:=Tryz.zeroValue428
 g0:=Kr
 g3:=Kr
 g4:=Kr
 g6:=by kernel_rfl }
def YtlfoalomaofejaaGreatDoor.laysJoin_ren:Go.Shelf.Ren:=⟨fun|156=>119|165=>147|166=>148|169=>149|240=>176|241=>177|276=>224|277=>225|n=>n,fun|31=>34|9=>9|3=>3|4=>4|0=>0|20=>20|72=>274|76=>263|70=>272|37=>55|75=>96|127=>320|164=>360|5=>5|80=>142|n=>n,fun|n=>n⟩
theorem YtlfoalomaofejaaGreatDoor.laysJoin:Go.Proofs.Lays.n156 Tryz.prog YtlfoalomaofejaaGreatDoor.laysJoin_ren:={
 mixed:=Kr
 f156:=Tryz.func119.trans (congrArg some Kr)
 f165:=Tryz.func147.trans (congrArg some Kr)
 f166:=Tryz.func148.trans (congrArg some Kr)
 f169:=Tryz.func149.trans (congrArg some Kr)
 f240:=Tryz.func176.trans (congrArg some Kr)
 f241:=Tryz.func177.trans (congrArg some Kr)
 f276:=Tryz.func224.trans (congrArg some Kr)
 f277:=Tryz.func225.trans (congrArg some Kr)
 t0:=Tryz.underlying0
 a0:=Tryz.isAgg0
 z0:=Tryz.sizeOf0
 v0:=Tryz.zeroValue0
 t3:=Tryz.underlying3
 a3:=Tryz.isAgg3
 z3:=Tryz.sizeOf3
 v3:=Tryz.zeroValue3
 t4:=Tryz.underlying4
 a4:=Tryz.isAgg4
 z4:=Tryz.sizeOf4
 v4:=Tryz.zeroValue4
 t9:=Tryz.underlying9
 a9:=Tryz.isAgg9
 z9:=Tryz.sizeOf9
 v9:=Tryz.zeroValue9
 t20:=Tryz.underlying20
 a20:=Tryz.isAgg20
 z20:=Tryz.sizeOf20
 v20:=Tryz.zeroValue20
 t31:=Tryz.underlying34
 a31:=Tryz.isAgg34
 z31:=Tryz.sizeOf34
 v31:=Tryz.zeroValue34
 t37:=Tryz.underlying55
 a37:=Tryz.isAgg55
 z37:=Tryz.sizeOf55
 v37:=Tryz.zeroValue55
 t70:=Tryz.underlying272
 a70:=Tryz.isAgg272
 z70:=Tryz.sizeOf272
 v70:=Tryz.zeroValue272
 t72:=Tryz.underlying274
 a72:=Tryz.isAgg274
 z72:=Tryz.sizeOf274
 v72:=Tryz.zeroValue274
 t75:=Tryz.underlying96
 a75:=Tryz.isAgg96
 z75:=Tryz.sizeOf96
 v75:=Tryz.zeroValue96
 t76:=Tryz.underlying263
 a76:=Tryz.isAgg263
 z76:=Tryz.sizeOf263
 v76:=Tryz.zeroValue263
 t127:=Tryz.underlying320
 a127:=Tryz.isAgg320
 z127:=Tryz.sizeOf320
 v127:=Tryz.zeroValue320
 t164:=Tryz.underlying360
 a164:=Tryz.isAgg360
 z164:=Tryz.sizeOf360
 v164:=Tryz.zeroValue360 }
def YtlfoalomaofejaaGreatDoor.laysQuote_ren:Go.Shelf.Ren:=⟨fun|177=>126|250=>165|289=>201|197=>196|323=>244|260=>237|339=>272|340=>273|242=>274|119=>275|345=>287|346=>288|278=>289|n=>n,fun|9=>9|5=>5|4=>4|3=>3|37=>55|21=>21|105=>336|46=>271|119=>267|0=>0|139=>270|138=>269|49=>228|234=>423|131=>350|51=>353|236=>425|n=>n,fun|3=>1|4=>2|20=>9|21=>10|22=>11|23=>12|24=>13|n=>n⟩
theorem YtlfoalomaofejaaGreatDoor.laysQuote:Go.Proofs.Lays.n177 Tryz.prog YtlfoalomaofejaaGreatDoor.laysQuote_ren:={
 mixed:=Kr
 f119:=Tryz.func275.trans (congrArg some Kr)
 f177:=Tryz.func126.trans (congrArg some Kr)
 f197:=Tryz.func196.trans (congrArg some Kr)
 f242:=Tryz.func274.trans (congrArg some Kr)
 f250:=Tryz.func165.trans (congrArg some Kr)
 f260:=Tryz.func237.trans (congrArg some Kr)
 f278:=Tryz.func289.trans (congrArg some Kr)
 f289:=Tryz.func201.trans (congrArg some Kr)
 f323:=Tryz.func244.trans (congrArg some Kr)
 f339:=Tryz.func272.trans (congrArg some Kr)
 f340:=Tryz.func273.trans (congrArg some Kr)
 f345:=Tryz.func287.trans (congrArg some Kr)
 f346:=Tryz.func288.trans (congrArg some Kr)
 t0:=Tryz.underlying0
 a0:=Tryz.isAgg0
 z0:=Tryz.sizeOf0
 v0:=Tryz.zeroValue0
 t3:=Tryz.underlying3
 a3:=Tryz.isAgg3
 z3:=Tryz.sizeOf3
 v3:=Tryz.zeroValue3
 t4:=Tryz.underlying4
 a4:=Tryz.isAgg4
 z4:=Tryz.sizeOf4
 v4:=Tryz.zeroValue4
 t5:=Tryz.underlying5
 a5:=Tryz.isAgg5
 z5:=Tryz.sizeOf5
 v5:=Tryz.zeroValue5
 t9:=Tryz.underlying9
 a9:=Tryz.isAgg9
 z9:=Tryz.sizeOf9
 v9:=Tryz.zeroValue9
 t21:=Tryz.underlying21
 a21:=Tryz.isAgg21
 z21:=Tryz.sizeOf21
 v21:=Tryz.zeroValue21
 t37:=Tryz.underlying55
 a37:=Tryz.isAgg55
 z37:=Tryz.sizeOf55
 v37:=Tryz.zeroValue55
 t46:=Tryz.underlying271
 a46:=Tryz.isAgg271
 z46:=Tryz.sizeOf271
 v46:=Tryz.zeroValue271
 t49:=Tryz.underlying228
 a49:=Tryz.isAgg228
 z49:=Tryz.sizeOf228
 v49:=Tryz.zeroValue228
 t51:=Tryz.underlying353
 a51:=Tryz.isAgg353
 z51:=Tryz.sizeOf353
 v51:=Tryz.zeroValue353
 t105:=Tryz.underlying336
 a105:=Tryz.isAgg336
 z105:=Tryz.sizeOf336
 v105:=Tryz.zeroValue336
 t119:=Tryz.underlying267
 a119:=Tryz.isAgg267
 z119:=Tryz.sizeOf267
 t131:=Tryz.underlying350
 a131:=Tryz.isAgg350
 z131:=Tryz.sizeOf350
 v131:=Tryz.zeroValue350
 t138:=Tryz.underlying269
 a138:=Tryz.isAgg269
 z138:=Tryz.sizeOf269
 v138:=Tryz.zeroValue269
 t139:=Tryz.underlying270
 a139:=Tryz.isAgg270
 z139:=Tryz.sizeOf270
 v139:=Tryz.zeroValue270
 t234:=Tryz.underlying423
 a234:=Tryz.isAgg423
 z234:=Tryz.sizeOf423
 v234:=Tryz.zeroValue423
 t236:=Tryz.underlying425
 a236:=Tryz.isAgg425
 z236:=Tryz.sizeOf425
 v236:=Tryz.zeroValue425
 g3:=Kr
 g4:=Kr
 g20:=Kr
 g21:=Kr
 g22:=Kr
 g23:=Kr
 g24:=by kernel_rfl }
def YtlfoalomaofejaaGreatDoor.laysItoa_ren:Go.Shelf.Ren:=⟨fun|171=>125|243=>164|246=>200|283=>240|284=>241|285=>242|286=>243|129=>214|317=>268|318=>269|319=>270|320=>271|337=>285|338=>286|n=>n,fun|3=>3|9=>9|2=>2|4=>4|171=>373|0=>0|53=>315|37=>55|5=>5|173=>375|212=>399|51=>353|20=>20|213=>400|46=>271|232=>429|233=>430|n=>n,fun|17=>8|18=>14|19=>15|n=>n⟩
theorem YtlfoalomaofejaaGreatDoor.laysItoa:Go.Proofs.LaysM.n171 Tryz.prog YtlfoalomaofejaaGreatDoor.laysItoa_ren:={
 mixed:=Kr
 f129:=Tryz.func214.trans (congrArg some Kr)
 f171:=Tryz.func125.trans (congrArg some Kr)
 f243:=Tryz.func164.trans (congrArg some Kr)
 f246:=Tryz.func200.trans (congrArg some Kr)
 f283:=Tryz.func240.trans (congrArg some Kr)
 f284:=Tryz.func241.trans (congrArg some Kr)
 f285:=Tryz.func242.trans (congrArg some Kr)
 f286:=Tryz.func243.trans (congrArg some Kr)
 f317:=Tryz.func268.trans (congrArg some Kr)
 f318:=Tryz.func269.trans (congrArg some Kr)
 f319:=Tryz.func270.trans (congrArg some Kr)
 f320:=Tryz.func271.trans (congrArg some Kr)
 f337:=Tryz.func285.trans (congrArg some Kr)
 f338:=Tryz.func286.trans (congrArg some Kr)
 t0:=Tryz.underlying0
 a0:=Tryz.isAgg0
 z0:=Tryz.sizeOf0
 v0:=Tryz.zeroValue0
 t2:=Tryz.underlying2
 a2:=Tryz.isAgg2
 z2:=Tryz.sizeOf2
 v2:=Tryz.zeroValue2
 t3:=Tryz.underlying3
 a3:=Tryz.isAgg3
 z3:=Tryz.sizeOf3
 v3:=Tryz.zeroValue3
 t4:=Tryz.underlying4
 a4:=Tryz.isAgg4
 z4:=Tryz.sizeOf4
 v4:=Tryz.zeroValue4
 t5:=Tryz.underlying5
 a5:=Tryz.isAgg5
 z5:=Tryz.sizeOf5
 v5:=Tryz.zeroValue5
 t9:=Tryz.underlying9
 a9:=Tryz.isAgg9
 z9:=Tryz.sizeOf9
 v9:=Tryz.zeroValue9
 t20:=Tryz.underlying20
 a20:=Tryz.isAgg20
 z20:=Tryz.sizeOf20
 v20:=Tryz.zeroValue20
 t37:=Tryz.underlying55
 a37:=Tryz.isAgg55
 z37:=Tryz.sizeOf55
 v37:=Tryz.zeroValue55
 t46:=Tryz.underlying271
 a46:=Tryz.isAgg271
 z46:=Tryz.sizeOf271
 v46:=Tryz.zeroValue271
 t51:=Tryz.underlying353
 a51:=Tryz.isAgg353
 z51:=Tryz.sizeOf353
 v51:=Tryz.zeroValue353
 t53:=Tryz.underlying315
 a53:=Tryz.isAgg315
 z53:=Tryz.sizeOf315
 v53:=Tryz.zeroValue315
 t171:=Tryz.underlying373
 a171:=Tryz.isAgg373
 z171:=Tryz.sizeOf373
 v171:=Tryz.zeroValue373
 t173:=Tryz.underlying375
 a173:=Tryz.isAgg375
 z173:=Tryz.sizeOf375
 v173:=Tryz.zeroValue375
 t212:=Tryz.underlying399
 a212:=Tryz.isAgg399
 z212:=Tryz.sizeOf399
 v212:=Tryz.zeroValue399
 t213:=Tryz.underlying400
 a213:=Tryz.isAgg400
 z213:=Tryz.sizeOf400
 t232:=Tryz.underlying429
 a232:=Tryz.isAgg429
 z232:=Tryz.sizeOf429
 v232:=Tryz.zeroValue429
 t233:=Tryz.underlying430
 a233:=Tryz.isAgg430
 z233:=Tryz.sizeOf430
 v233:=Tryz.zeroValue430
 g17:=Kr
 g18:=Kr
 g19:=Kr
 i0:=Kr
 i2:=Kr
 i3:=Kr
 i4:=Kr
 i5:=Kr
 i9:=Kr
 i20:=Kr
 i37:=Kr
 i46:=Kr
 i51:=Kr
 i53:=Kr
 i171:=Kr
 i173:=Kr
 i212:=Kr
 i232:=Kr
 i233:=Kr
 m17:=Kr
 m18:=Kr
 m19:=by kernel_rfl }
end Go.Proofs
end
namespace Go.Proofs.YtlfoalomaofejaaGreatDoor
section
open Go.RowKit Go.Shelf
def Tbs(w:World):Prop:=∀ w',Zf w w'->U8 w'/\Lib.TabIs Tryz.prog w' "strings.asciiSpace" .u8 Lib.asciiSpaceTab/\Lib.WhiteTab 7 w'/\Lib.PrintTabsAt 9 10 11 12 Lib.goPrintTabs w'/\Lib.TabIs Tryz.prog w' "internal/strconv.uint64pow10" .u64 Lib.pow10Tab
theorem Tbs.ext{w w':World}(h:Tbs w)(f:Zf w w'):Tbs w':=λq z=>h q (f.then z)
theorem Tbs.u8{w:World}(h:Tbs w):U8 w:=(h w (Fl w)).1
theorem Zh1(s:ByteArray)(w:World)(q:s.size<=9223372036854775807)(z:Tbs w):Calls Tryz.prog 187 #[.string s] w λe w'=>e=.returned (.string ⟨(Lib.trimSpaceD s.data.toList).toArray⟩)/\Zf w w':=by
 obtain⟨h1,h2,h3,_⟩:=z w (Fl w);exact (Any.strings_TrimSpace_any laysTrim ⟨Kr⟩ s w q h2 h1 h3).mono λ_ _ h=>⟨h.1,Fr.of_below h.2⟩
theorem Zgl(s:ByteArray)(w:World)(z:s.size<=1000000000)(q:Tbs w):Calls Tryz.prog 126 #[.string s] w λe w'=>e=.returned (.string (strOfNums (Lib.quoteZ Lib.goPrintTabs s)))/\Zf w w':=by
 obtain⟨h1,_,_,h4,_⟩:=q w (Fl w);exact (Any.strconv_Quote laysQuote Kr Lib.goPrintTabs s w Om h4 h1).mono λ_ _ h=>⟨h.1,Fr.of_below h.2⟩
theorem Pt(n:Int)(w:World)(A:-9223372036854775808<=n)(h1:n<=9223372036854775807)(z:Tbs w):Calls Tryz.prog 125 #[.int .i64 n] w λe w'=>e=.returned (.string ⟨(Lib.itoa n).toArray⟩)/\Zf w w':=by
 refine (Any.strconv_Itoa laysItoa n A h1 w (z w (Fl w)).2.2.2.2).mono ?_;rintro e w' ⟨q,k,os,rfl⟩;exact⟨q,rfl,rfl,rfl,by rw[Sort.size_grow];exact Nat.le_add_right _ _,λj h _=>Sort.heap_grow_old _ _ h⟩
theorem Zjn(G o c:Nat)(xs:List ByteArray)(q:ByteArray)(w:World)(J:∀ (j:Nat) x,xs[j]?=some x->w.cell? ⟨G,o+j,none⟩=some (.string x))(I:G<w.heap.size)(K:xs.length<=140737488355328)(A:xs.length<=c)
  (z:(Lib.join (xs.map (·.data.toList)) q.data.toList).length<=140737488355328) :
  Calls Tryz.prog 119 #[.slice (some ⟨G,o,none⟩) xs.length c,.string q] w λe w'=>e=.returned (.string ⟨(Lib.join (xs.map (·.data.toList)) q.data.toList).toArray⟩)/\Zf w w' :=
 (Any.strings_Join laysJoin ⟨⟨Kr,Kr⟩,laysQuote.t5,laysQuote.a5,laysQuote.z5,laysQuote.v5,Kr,Kr,Kr,by decide⟩ G o c xs q w J I K A z).mono λ_ _ h=>⟨h.1,Fr.of_below h.2⟩
end
section
open Go.ChangeShapes Go.WideShapes Go.ChangeAt Go.RowKit Go.Shelf
theorem Pg{P:Program}{W:World}{name:String}{k:IntKind}{K:List Int}{g:Nat}{t e:TypeId}{n:Nat}(M:P.globalNamed name=some g)(z:(P.globals[g]?).map (·.type)=some t)(L:P.underlying t=some (.array n e))(U:P.underlying e=some (.int k))(J:P.cellsOf e=1)(I:P.cellsOf t=n)
  (h:Lib.VarReads P W name (Lib.tabData k K)):Lib.TabIs P W name k K:=by
 obtain⟨X,V,cs,fuel,p,G,A,q,hd⟩:=h;obtain rfl:=Option.some.inj (M.symm.trans G);obtain rfl:=Option.some.inj (z.symm.trans A);unfold Lib.TabIs;rw[q,<- Lib.cells_of_tab L U J I hd]
theorem Zl6:Lays.n199 Tryz.prog laysTrim_ren:={ laysTrim with }
theorem Zng{W:World}(h:laidMetH Tryz.prog Rows.fnRoadMarksRow.laid W):Tbs W:=by
  have u:=Zlg h;have I:laidMet Tryz.prog Rows.fnRoadMarksRow.laid W:=h;rw[Zae]at I
  have q:∀ {x:String×DataW Unit},x∈[("strconv.isNotPrint16",Lib.sliceData .u16 Lib.goPrintTabs.n16),("strconv.isNotPrint32",Lib.sliceData .u16 Lib.goPrintTabs.n32),("strconv.isPrint16",Lib.sliceData .u16 Lib.goPrintTabs.p16),("strconv.isPrint32",Lib.sliceData .u32 Lib.goPrintTabs.p32)]->Lib.VarReads Tryz.prog W x.1 x.2:=λG=>Lib.laidMet.reads I (by
    simp only[List.mem_cons,List.mem_nil_iff,or_false]at G;simp only[List.mem_append,List.mem_singleton]
    rcases G with rfl|rfl|rfl|rfl<;>simp)
  have K:Lib.TabIs Tryz.prog W "strings.asciiSpace" .u8 Lib.asciiSpaceTab:=Pg (g:=3) (t:=267) (e:=5) (n:=256) Kr Kr Kr Kr Kr Kr (by
    rw[<- (Kr:(Rows.laid_strings_asciiSpace:DataW Unit)=Lib.tabData .u8 Lib.asciiSpaceTab)]
    exact Lib.laidMet.reads h (.tail _ (.tail _ (.tail _ (.tail _ (.tail _ (.tail _ (.tail _ (.tail _ (.head _))))))))))
  have hp:Lib.TabIs Tryz.prog W "internal/strconv.uint64pow10" .u64 Lib.pow10Tab:=Pg (g:=8) (t:=399) (e:=315) (n:=20) Kr Kr Kr Kr Kr Kr (by
    rw[<- (Kr:(Rows.laid_internal_strconv_uint64pow10:DataW Unit)=Lib.tabData .u64 Lib.pow10Tab)]
    exact Lib.laidMet.reads h (.tail _ (.tail _ (.head _))))
  have J:Lib.WhiteTab 7 W:=whiteTab_of_reads Zl6 ⟨Kr,Kr,Kr,Kr,Kr,Kr,Kr,Kr⟩ (by
    rw[<- (Kr:(Rows.laid_unicode_White_Space:DataW Unit)=Lib.whiteData)]
    exact Lib.laidMet.reads h (.tail _ (.tail _ (.tail _ (.tail _ (.tail _ (.tail _ (.tail _ (.head _)))))))))
  have A:Lib.PrintTabsAt 9 10 11 12 Lib.goPrintTabs W :=
    ⟨Lib.tabSlice_of_reads (t:=423) (e:=228) Kr Kr Kr Kr Kr (of_decide_eq_true Kr) (q (.tail _ (.tail _ (.head _)))),Lib.tabSlice_of_reads (t:=423) (e:=228) Kr Kr Kr Kr Kr (of_decide_eq_true Kr) (q (.head _)),
     Lib.tabSlice_of_reads (t:=425) (e:=353) Kr Kr Kr Kr Kr (of_decide_eq_true Kr) (q (.tail _ (.tail _ (.tail _ (.head _))))),Lib.tabSlice_of_reads (t:=423) (e:=228) Kr Kr Kr Kr Kr (of_decide_eq_true Kr) (q (.tail _ (.head _))),
     of_decide_eq_true Kr,of_decide_eq_true Kr,of_decide_eq_true Kr⟩
  intro w' f;have z:=Fr.below f;exact⟨u.ext f,Joins.tab_stays (g:=3) Kr K z (Nl _),WhiteTab_below J z,printTabs_below A z,Joins.tab_stays (g:=8) Kr hp z (Nl _)⟩
end
end Go.Proofs.YtlfoalomaofejaaGreatDoor
