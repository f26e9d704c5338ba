/- What the row lists gives all tables that the contracts ask. -/
import Derived.Test.YtoliamijgmifkaaGreatDoorF2
import Derived.Test.YtoliamijgmifkaaGreatDoorF3
import Derived.Lib.LaidU8
import Derived.Lib.LaidPrint
set_option linter.all false
namespace Go.Proofs.YtoliamijgmifkaaGreatDoor
open Go.ChangeShapes Go.WideShapes Go.ChangeAt Go.RowKit Go.Shelf
theorem Qi{P:Program}{W:World}{name:String}{k:IntKind}{zs:List Int}{g:Nat}{t e:TypeId}{n:Nat}(hg:P.globalNamed name=some g)(hty:(P.globals[g]?).map (·.type)=some t)(ht:P.underlying t=some (.array n e))(he:P.underlying e=some (.int k))(hce:P.cellsOf e=1)(hct:P.cellsOf t=n)
  (h:Lib.VarReads P W name (Lib.tabData k zs)):Lib.TabIs P W name k zs:=by
 obtain⟨g',t',cs,fuel,p,hg',ht',hvar,hd⟩:=h;obtain rfl:=Option.some.inj (hg.symm.trans hg');obtain rfl:=Option.some.inj (hty.symm.trans ht');unfold Lib.TabIs;rw[hvar,<- Lib.cells_of_tab ht he hce hct hd]
theorem Zil:Lays.n199 Tryz.prog laysTrim_ren:={ laysTrim with }
theorem Zjk{W:World}(h:laidMetH Tryz.prog Rows.fnWrongRow.laid W):Tbs W:=by
  have u:=Zhu h;have h0:laidMet Tryz.prog Rows.fnWrongRow.laid W:=h;rw[Ev]at h0
  have in1:∀ {x:String × DataW Unit},x∈[("strconv.isNotPrint16",Lib.sliceData .u16 Lib.goPrintTabs.n16),("strconv.isNotPrint32",Lib.sliceData .u16 Lib.goPrintTabs.n32),("strconv.isPrint16",Lib.sliceData .u16 Lib.goPrintTabs.p16),("strconv.isPrint32",Lib.sliceData .u32 Lib.goPrintTabs.p32)]->Lib.VarReads Tryz.prog W x.1 x.2:=fun hx=>Lib.laidMet.reads h0 (by
    simp only[List.mem_cons,List.mem_nil_iff,or_false]at hx;simp only[List.mem_append,List.mem_singleton]
    rcases hx with rfl|rfl|rfl|rfl <;> simp)
  have ha:Lib.TabIs Tryz.prog W "strings.asciiSpace" .u8 Lib.asciiSpaceTab:=Qi (g:=2) (t:=242) (e:=5) (n:=256) (by kernel_rfl) (by kernel_rfl) (by kernel_rfl) (by kernel_rfl) (by kernel_rfl) (by kernel_rfl) (by
    rw[<- show (Rows.laid_strings_asciiSpace:DataW Unit)=Lib.tabData .u8 Lib.asciiSpaceTab by kernel_rfl]
    exact Lib.laidMet.reads h (.tail _ (.tail _ (.tail _ (.tail _ (.tail _ (.head _)))))))
  have hp:Lib.TabIs Tryz.prog W "internal/strconv.uint64pow10" .u64 Lib.pow10Tab:=Qi (g:=5) (t:=315) (e:=267) (n:=20) (by kernel_rfl) (by kernel_rfl) (by kernel_rfl) (by kernel_rfl) (by kernel_rfl) (by kernel_rfl) (by
    rw[<- show (Rows.laid_internal_strconv_uint64pow10:DataW Unit)=Lib.tabData .u64 Lib.pow10Tab by kernel_rfl]
    exact Lib.laidMet.reads h (.tail _ (.tail _ (.head _))))
  have hw:Lib.WhiteTab 4 W:=whiteTab_of_reads Zil ⟨by kernel_rfl,by kernel_rfl,by kernel_rfl,by kernel_rfl,by kernel_rfl,by kernel_rfl,by kernel_rfl,by kernel_rfl⟩ (by
    rw[<- show (Rows.laid_unicode_White_Space:DataW Unit)=Lib.whiteData by kernel_rfl]
    exact Lib.laidMet.reads h (.tail _ (.tail _ (.tail _ (.tail _ (.head _))))))
  have hpr:Lib.PrintTabsAt 6 7 8 9 Lib.goPrintTabs W :=
    ⟨Lib.tabSlice_of_reads (t:=328) (e:=178) (by kernel_rfl) (by kernel_rfl) (by kernel_rfl) (by kernel_rfl) (by kernel_rfl) (of_decide_eq_true (by kernel_rfl)) (in1 (.tail _ (.tail _ (.head _)))),Lib.tabSlice_of_reads (t:=328) (e:=178) (by kernel_rfl) (by kernel_rfl) (by kernel_rfl) (by kernel_rfl) (by kernel_rfl) (of_decide_eq_true (by kernel_rfl)) (in1 (.head _)),
     Lib.tabSlice_of_reads (t:=330) (e:=278) (by kernel_rfl) (by kernel_rfl) (by kernel_rfl) (by kernel_rfl) (by kernel_rfl) (of_decide_eq_true (by kernel_rfl)) (in1 (.tail _ (.tail _ (.tail _ (.head _))))),Lib.tabSlice_of_reads (t:=328) (e:=178) (by kernel_rfl) (by kernel_rfl) (by kernel_rfl) (by kernel_rfl) (by kernel_rfl) (of_decide_eq_true (by kernel_rfl)) (in1 (.tail _ (.head _))),
     of_decide_eq_true (by kernel_rfl),of_decide_eq_true (by kernel_rfl),of_decide_eq_true (by kernel_rfl)⟩
  intro w' f;have bel:=Fr.below f;exact⟨u.ext f,Joins.tab_stays (g:=2) (by kernel_rfl) ha bel (Nat.le_refl _),WhiteTab_below hw bel,printTabs_below hpr bel,Joins.tab_stays (g:=5) (by kernel_rfl) hp bel (Nat.le_refl _)⟩
end Go.Proofs.YtoliamijgmifkaaGreatDoor
