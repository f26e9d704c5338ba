/- What the cards of this seat have in common: a world that lays the listed variables; arguments that r -/
import Derived.Test.YtoliamijgmifkaaGreatDoorCards
import Derived.Test.YtoliamijgmifkaaGreatDoorTie
import Derived.Test.YtoliamijgmifkaaGreatDoorF1
import Derived.ProofKit
import Derived.Carry
import Derived.Deep.DeepHandedRow
import Derived.Deep.DeepWitnessRowRef
import Derived.Lib.LaidIn
import Derived.Lib.LaidU8T
import Derived.Lib.LaidSlice
import Derived.PinnedBridge
import Derived.SevenTiedAt
set_option linter.all false
set_option maxRecDepth 1000000
namespace Go.Proofs.YtoliamijgmifkaaGreatDoor
open Go.ChangeShapes Go.WideShapes Go.ChangeAt Go.RowKit Go.Shelf
theorem Zfq:ownKnob Tryz.prog.godebug=none:=by kernel_rfl
theorem Zf2:laidOutB Tryz.prog=true:=by kernel_rfl
def Zac:DataW Unit->Value
 | .lit (.int k n)=>.int k n
 | _=>undef
def rowOf:DataW Unit->Array Value
 | .slice ds _=>(ds.map Zac).toArray
 | .agg ds=>(ds.flatMap fun d=>match d with | .agg es=>es.map Zac|d=>[Zac d]).toArray
 | _=>#[]
noncomputable def Xq(os:Os):World :=
 let N:=(World.settled Tryz.prog os).heap.size
 let T:=Lib.goPrintTabs
 let sl (k n:Nat):Value:=.slice (some ⟨N+k,0,none⟩) n n
 let w0:=World.holding Tryz.prog os ⟨#[.cells (Lib.whiteT.map fun (z:Nat)=>Value.int .u16 (z:Int)).toArray 304,.cells #[.slice (some ⟨N,0,none⟩) 7 7,.slice none 0 0,.int .i64 2] 302,
  .cells (Lib.intCellsOf .u16 T.p16) 178,.cells (Lib.intCellsOf .u16 T.n16) 178,.cells (Lib.intCellsOf .u32 T.p32) 278,.cells (Lib.intCellsOf .u16 T.n32) 178,.cells (Lib.intCellsOf .u16 Pinned.isGraphicZ) 178],#[],[]⟩
 let put (h:Array Obj) (g:Nat) (cs:Array Value):Array Obj:=h.modify g fun
  | .cells _ t frozen=>.cells cs t frozen
  | o=>o
 { w0 with heap:=put (put (put (put (put (put (put (put (put (put (put (put w0.heap 0 (Lib.firstTab.map fun z=>Value.int .u8 z).toArray) 1 (rowOf Rows.laid_unicode_utf8_acceptRanges)) 2 (rowOf Rows.laid_strings_asciiSpace))
   4 #[.pointer (some ⟨N+1,0,none⟩)]) 5 (rowOf Rows.laid_internal_strconv_uint64pow10)) 6 #[sl 2 T.p16.length]) 7 #[sl 3 T.n16.length]) 8 #[sl 4 T.p32.length]) 9 #[sl 5 T.n32.length]) 10 #[sl 6 Pinned.isGraphicZ.length])
   11 (rowOf Rows.laid_math_bits_deBruijn32tab)) 12 (rowOf Rows.laid_math_bits_deBruijn64tab) }
theorem Zhu{W:World}(h:laidMetH Tryz.prog Rows.fnWrongRow.laid W):U8 W:=by
 have h3:Lib.VarReads Tryz.prog W "unicode/utf8.first" Rows.laid_unicode_utf8_first:=Lib.laidMet.reads h (.tail _ (.tail _ (.tail _ (.tail _ (.tail _ (.tail _ (.tail _ (.tail _ (.tail _ (.tail _ (.tail _ (.head _))))))))))));have h4:Lib.VarReads Tryz.prog W "unicode/utf8.acceptRanges" Rows.laid_unicode_utf8_acceptRanges:=Lib.laidMet.reads h (.tail _ (.tail _ (.tail _ (.head _))));rw[show Rows.laid_unicode_utf8_first=Lib.firstData from Pinned.utf8First_eq]at h3;rw[show (Rows.laid_unicode_utf8_acceptRanges:DataW Unit)=Lib.acceptData by kernel_rfl]at h4;exact utf8Tabs_of_readsT (U8Types.of196 laysValid) ⟨by kernel_rfl,by kernel_rfl,by kernel_rfl,by kernel_rfl,by kernel_rfl,by kernel_rfl,by kernel_rfl⟩ h3 h4
noncomputable abbrev N0:Nat:=(World.settled Tryz.prog default).heap.size
theorem Db(os:Os)(args:Array Value):LaidIn Tryz.prog ((Xq os).forCall (fun _ _=>0) ⟨#[],args,[]⟩).memory (Rows.fnWrongRow.laid.take 6) [11,12,5,1,4,N0+1,N0,2] :=
 LaidIn.of_run [11,12,5,1,4,N0+1,N0,2] 10 (by kernel_rfl) (by kernel_rfl) (by kernel_rfl) (by kernel_rfl)
theorem Dc(os:Os)(args:Array Value):LaidIn Tryz.prog ((Xq os).forCall (fun _ _=>0) ⟨#[],args,[]⟩).memory [("unicode/utf8.first",Rows.laid_unicode_utf8_first)] [0] :=
 LaidIn.of_run [0] 10 (by kernel_rfl) (by kernel_rfl) (by kernel_rfl) (by kernel_rfl)
theorem Zfo(os:Os)(args:Array Value):LaidIn Tryz.prog ((Xq os).forCall (fun _ _=>0) ⟨#[],args,[]⟩).memory [("strconv.isGraphic",Lib.sliceData .u16 Pinned.isGraphicZ)] [10,N0+6] :=
 Lib.laidIn_slice (t:=328) (e:=178) (te:=178) Pinned.isGraphicZ (N0+6) (by kernel_rfl) (by kernel_rfl) (by kernel_rfl) (by kernel_rfl) (by kernel_rfl) (by kernel_rfl) (by kernel_rfl) (by kernel_rfl) (of_decide_eq_true (by kernel_rfl)) (of_decide_eq_true (by kernel_rfl))
theorem Zdi(os:Os)(args:Array Value):LaidIn Tryz.prog ((Xq os).forCall (fun _ _=>0) ⟨#[],args,[]⟩).memory [("strconv.isNotPrint16",Lib.sliceData .u16 Lib.goPrintTabs.n16)] [7,N0+3] :=
 Lib.laidIn_slice (t:=328) (e:=178) (te:=178) Lib.goPrintTabs.n16 (N0+3) (by kernel_rfl) (by kernel_rfl) (by kernel_rfl) (by kernel_rfl) (by kernel_rfl) (by kernel_rfl) (by kernel_rfl) (by kernel_rfl) (of_decide_eq_true (by kernel_rfl)) (of_decide_eq_true (by kernel_rfl))
theorem Zdh(os:Os)(args:Array Value):LaidIn Tryz.prog ((Xq os).forCall (fun _ _=>0) ⟨#[],args,[]⟩).memory [("strconv.isNotPrint32",Lib.sliceData .u16 Lib.goPrintTabs.n32)] [9,N0+5] :=
 Lib.laidIn_slice (t:=328) (e:=178) (te:=178) Lib.goPrintTabs.n32 (N0+5) (by kernel_rfl) (by kernel_rfl) (by kernel_rfl) (by kernel_rfl) (by kernel_rfl) (by kernel_rfl) (by kernel_rfl) (by kernel_rfl) (of_decide_eq_true (by kernel_rfl)) (of_decide_eq_true (by kernel_rfl))
theorem Zdg(os:Os)(args:Array Value):LaidIn Tryz.prog ((Xq os).forCall (fun _ _=>0) ⟨#[],args,[]⟩).memory [("strconv.isPrint16",Lib.sliceData .u16 Lib.goPrintTabs.p16)] [6,N0+2] :=
 Lib.laidIn_slice (t:=328) (e:=178) (te:=178) Lib.goPrintTabs.p16 (N0+2) (by kernel_rfl) (by kernel_rfl) (by kernel_rfl) (by kernel_rfl) (by kernel_rfl) (by kernel_rfl) (by kernel_rfl) (by kernel_rfl) (of_decide_eq_true (by kernel_rfl)) (of_decide_eq_true (by kernel_rfl))
theorem Zdf(os:Os)(args:Array Value):LaidIn Tryz.prog ((Xq os).forCall (fun _ _=>0) ⟨#[],args,[]⟩).memory [("strconv.isPrint32",Lib.sliceData .u32 Lib.goPrintTabs.p32)] [8,N0+4] :=
 Lib.laidIn_slice (t:=330) (e:=278) (te:=278) Lib.goPrintTabs.p32 (N0+4) (by kernel_rfl) (by kernel_rfl) (by kernel_rfl) (by kernel_rfl) (by kernel_rfl) (by kernel_rfl) (by kernel_rfl) (by kernel_rfl) (of_decide_eq_true (by kernel_rfl)) (of_decide_eq_true (by kernel_rfl))
theorem Ev:Rows.fnWrongRow.laid=Rows.fnWrongRow.laid.take 6++[("strconv.isGraphic",Lib.sliceData .u16 Pinned.isGraphicZ)]++[("strconv.isNotPrint16",Lib.sliceData .u16 Lib.goPrintTabs.n16)]++[("strconv.isNotPrint32",Lib.sliceData .u16 Lib.goPrintTabs.n32)]++[("strconv.isPrint16",Lib.sliceData .u16 Lib.goPrintTabs.p16)]++[("strconv.isPrint32",Lib.sliceData .u32 Lib.goPrintTabs.p32)]++[("unicode/utf8.first",Rows.laid_unicode_utf8_first)]:=by
 rw[<- Pinned.isPrint16_eq,<- Pinned.isPrint32_eq,<- Pinned.isNotPrint16_eq,<- Pinned.isNotPrint32_eq,show Lib.sliceData .u16 Pinned.isGraphicZ=Pinned.isGraphic by kernel_rfl];rfl
theorem Zf3(os:Os)(args:Array Value):laidMet Tryz.prog Rows.fnWrongRow.laid ((Xq os).forCall (fun _ _=>0) ⟨#[],args,[]⟩).memory:=by
 rw[Ev];exact (((((((Db os args).append (Zfo os args) (by kernel_rfl)).append (Zdi os args) (by kernel_rfl)).append (Zdh os args) (by kernel_rfl)).append (Zdg os args) (by kernel_rfl)).append (Zdf os args) (by kernel_rfl)).append (Dc os args) (by kernel_rfl)).met
end Go.Proofs.YtoliamijgmifkaaGreatDoor
