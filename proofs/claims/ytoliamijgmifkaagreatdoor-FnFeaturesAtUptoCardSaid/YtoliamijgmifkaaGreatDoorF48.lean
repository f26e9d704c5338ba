/- laws.ordered (strictly): texts that ascend, none empty, none with a byte 0. -/
import Derived.Test.YtoliamijgmifkaaGreatDoorF38
set_option linter.all false
set_option maxRecDepth 100000
set_option maxHeartbeats 4000000
namespace Go.Proofs.YtoliamijgmifkaaGreatDoor
open Go.RowKit DT SS TR LT
theorem Zd5(W W':World)(s:ByteArray)(hs:s.size<=2147483647)(f:Ext (W.alloc (.cells #[.string s] 9)) W'):Calls Tryz.prog 31 #[.slice (some ⟨W.heap.size,0,none⟩) 1 1] W' fun e w'=>e = .returned (.bool (Wa s))/\W'=w':=by
 have B:=f.heap (alloc_at W (.cells #[.string s] 9)) id;have hz:=Za W (.cells #[.string s] 9);have hz2:=f.size
 have:=I5 W' (fun _=>True) (some ⟨W.heap.size,0,none⟩) 1 [s] (by
  refine⟨by simp,Or.inr ⟨W.heap.size,0,rfl,trivial,by omega,?_⟩⟩;intro k hk;have hk0:k=0:=by simpa using hk
  subst hk0;refine⟨[.string s],⟨rfl,Nat.le_trans hs (by decide)⟩,?_⟩;intro j hj;have hj0:j=0:=by simpa using hj
  subst hj0
  exact cellAt B 0 _ rfl)
 have e:P6 [s]=Wa s:=by unfold P6;simp
 rw[e]at this;exact this
theorem Df(w:World)(O:Nat->Prop)(A:Option Addr)(c:Nat)(xs:List ByteArray)(h:Ty.str.At w O A xs)(hs:∀ s∈xs,s.size<=2147483647) :
  Calls Tryz.prog 75 #[.slice A xs.length c,.bool true] w fun e w'=>e = .returned (.bool (Jt xs))/\Ext w w':=by
 have mixed:Tryz.prog.follows .mixedOrders=true:=by kernel_rfl
 have hm:=h.1;have HN:=Lib.hid h;have HS:=Lib.hid hs;clear h hs;go_enter Tryz.func75,Tryz.ntmps75
 go_wp2_with fail
 go_loopg [8] xs.length (fun g1 v8 wr=>∃ (i:Nat),v8 = .int .i64 (i:Int)/\i<=xs.length/\xs.length<=i+g1/\Hid (Ext w wr/\(List.range i).all (Oq xs)=true))
 case atStart=>exact⟨0,rfl,by omega,by omega,Fr.refl _ _,rfl⟩
 case round =>
  obtain⟨i,rfl,hi,hg,HR⟩:=hrel;by_cases hlt:i<xs.length
  ·have hlz:(i:Int)<(xs.length:Int):=by omega
   have hz0:(0:Int)<=(i:Int):=by omega
   have HB:Hid (Oq xs i=false->Jt xs=false):=fun e=>by
    unfold Jt;rw[Bool.and_eq_false_iff];left;rw[List.all_eq_false];exact⟨i,by simpa using hlt,by simp[e]⟩
   have HK:Hid (Oq xs i=true->(List.range (i+1)).all (Oq xs)=true):=fun e=>by
    show _=_;rw[List.range_succ,List.all_append,HR.out.2];simp[e]
   obtain⟨b,o,rfl,_,hbl,e0,hsz⟩:=Vz HN.out i hlt;have hget:xs[i]? = some xs[i]:=List.getElem?_eq_getElem hlt;have HM:=Lib.hid (HS.out _ (List.getElem_mem hlt));have hp:i-1<xs.length:=by omega
   obtain⟨b',o',eA,_,_,e1,_⟩:=Vz HN.out (i-1) hp;cases eA;have hget':xs[i-1]? = some xs[i-1]:=List.getElem?_eq_getElem hp;have hord:Oq xs i=((decide (xs[i].size≠0)&&Wa xs[i])&&(i==0||(!Op.bytesLess xs[i].toList xs[i-1].toList && !(xs[i].toList==xs[i-1].toList)))):=by unfold Oq;rw[hget,hget']
   have HSS:Hid (∀ W,Ext wr W->W.cell? ⟨b,o+i,none⟩=some (.string xs[i])/\W.cell? ⟨b,o+(i-1),none⟩=some (.string xs[i-1])):=fun W f=>⟨(HR.out.1.trans f (fun _ _ e=>e)).cell e0 id,(HR.out.1.trans f (fun _ _ e=>e)).cell e1 id⟩
   have hez:(xs[i].toList==[]) = !decide (xs[i].size≠0):=by
    rw[ByteArray.toList_eq];have:xs[i].data.toList.length=xs[i].size:=by rw[Array.length_toList];rfl
    cases hl:xs[i].data.toList with
    | nil=>rw[hl]at this;simp at this;simp[<- this]
    | cons x l=>rw[hl]at this;simp at this;simp[<- this]
   have C:Hid (∀ W:World,Ext (wr.alloc (.cells #[.string xs[i]] 9)) W->Calls Tryz.prog 31 #[.slice (some ⟨wr.heap.size,0,none⟩) 1 1] W fun e w'=>e = .returned (.bool (Wa xs[i]))/\W=w'):=fun W f=>Zd5 wr W _ HM.out f
   rw[hord]at HB HK;clear hget hget' hord HM e0 e1;generalize xs[i]=s at *;generalize xs[i-1]=p at *;generalize decide (s.size≠0)=ne at *;generalize Wa s=nz at *;obtain⟨bl,hlt2⟩:∃ q,q=Op.bytesLess s.toList p.toList:=⟨_,rfl⟩;obtain⟨be,heq2⟩:∃ q,q=(s.toList==p.toList):=⟨_,rfl⟩;rw[<- hlt2,<- heq2]at HB HK;have hlt3:=hlt2.symm;have heq3:=heq2.symm;clear hlt2 heq2;go_wp2_with fail
   have hz5:(0:Int)<=((i-1:Nat):Int):=by omega
   have hz4:((i-1:Nat):Int)<(xs.length:Int):=by omega
   obtain⟨gb,hgd⟩:∃ q,decide ((0:Int)<(i:Int))=q:=⟨_,rfl⟩;have hgn:decide (0<i)=gb:=by rw[<- hgd];exact decide_eq_decide.2 (by omega)
   have hgb:i=0->gb=false:=fun e=>by rw[<- hgd];exact decide_eq_false (by omega)
   have hgb2:0<i->gb=true:=fun e=>by rw[<- hgd];exact decide_eq_true (by omega)
   have hcs:(ne=false/\0<=i)\/(ne=true/\nz=false/\0<=i)\/(ne=true/\nz=true/\gb=false/\i=0)\/(ne=true/\nz=true/\bl=true/\gb=true/\0<i)\/(ne=true/\nz=true/\bl=false/\be=true/\gb=true/\0<i)\/(ne=true/\nz=true/\bl=false/\be=false/\gb=true/\0<i):=by
    rcases Nat.eq_zero_or_pos i with h|h <;> (first|(have g:=hgb h;clear hgn;subst g)|(have g:=hgb2 h;clear hgn;subst g)) <;> cases ne <;> cases nz <;> cases bl <;> cases be <;> simp <;> omega
   have hgt:Hid ((i=0->¬ (0:Int)<(i:Int))/\(0<i->(0:Int)<(i:Int)/\IntKind.i64.wrap ((i:Int)-1)=((i-1:Nat):Int))):=by
    refine⟨fun e=>by omega,fun e=>⟨by omega,?_⟩⟩;have:(i:Int)-1=((i-1:Nat):Int):=by omega
    rw[this];simp[IntKind.wrap,IntKind.min,IntKind.max,IntKind.signed,IntKind.bits];omega
   clear hgb hgb2;rcases hcs with ⟨rfl,hi0⟩|⟨rfl,rfl,hi0⟩|⟨rfl,rfl,rfl,hi0⟩|⟨rfl,rfl,rfl,rfl,hi0⟩|⟨rfl,rfl,rfl,rfl,rfl,hi0⟩|⟨rfl,rfl,rfl,rfl,rfl,hi0⟩
   all_goals (first|have hg1:=hgt.out.1 hi0|skip)
   all_goals (first|have hg2:=hgt.out.2 hi0|skip)
   all_goals (first|obtain⟨hg3,hg4⟩:=hg2|skip)
   all_goals (have HI0:=Lib.hid hi0;clear hi0)
   all_goals (
    refine Yd 44 45 #[false,false,false,false,false,false,false,false,false,false,false,false,false,false,false,false,false,false,false,false,false,false,false,false,false,false,false,false,false,false,false,false,false,false,false,false,false,false,false,false,false,false,false,false,false] (fun W=>W.cell? ⟨b,o+i,none⟩=some (.string s)/\W.cell? ⟨b,o+(i-1),none⟩=some (.string p)) mixed rfl rfl (HSS.out wr.drew ((Fr.refl _ wr).drew)) (fun hS=>?_);refine WL.go [(0,11),(1,12),(2,13),(3,14),(4,15),(5,16),(6,17),(7,18),(8,19),(9,20)] ?_;iterate 10 (first|(refine WL.tk (v:=undef) rfl rfl (by kernel_rfl) (fun _ _ _ h=>h) (Or.inr ⟨by rfl,rfl⟩) (by assumption) ?_;simp only[Act.put,List.setIfInBounds_toArray,List.set_cons_zero,List.set_cons_succ,hlt3,heq3,hgd,hgn])|(refine WL.tk (v:=?_) rfl rfl (by kernel_rfl) (fun _ _ _ h=>h) (Or.inl ⟨by rfl,?_⟩) (by assumption) ?_;rotate_left;(focus (intro w hSw;(try obtain⟨s0,s1⟩:=hSw);go_simp;(try with_reducible rfl)));simp only[Act.put,List.setIfInBounds_toArray,List.set_cons_zero,List.set_cons_succ,hlt3,heq3,hgd,hgn]))
    first
    | (refine WZ.take (i:=10) (dst:=some 21) (v:=undef) rfl rfl (by kernel_rfl) (fun _ _ _ h=>h) (Or.inr ⟨by rfl,rfl⟩) (by assumption) ?_;simp only[Act.put,List.setIfInBounds_toArray,List.set_cons_zero,List.set_cons_succ,hlt3,heq3,hgd,hgn])
    | (refine WZ.one (i:=10) rfl (by kernel_rfl) (by decide) (fun K hK=>?_);go_simp;refine hK.out _ _ (HSS.out _ ((Fr.refl (fun _=>False) wr).alloc _).drew) (fun hSr4_10=>?_);clear hK K;try simp only[Act.put,List.setIfInBounds_toArray,List.set_cons_zero,List.set_cons_succ,hlt3,heq3,hgd,hgn])
    first
    | (refine WZ.take (i:=11) (dst:=some 22) (v:=undef) rfl rfl (by kernel_rfl) (fun _ _ _ h=>h) (Or.inr ⟨by rfl,rfl⟩) (by assumption) ?_;simp only[Act.put,List.setIfInBounds_toArray,List.set_cons_zero,List.set_cons_succ,hlt3,heq3,hgd,hgn])
    | (refine WZ.one (i:=11) rfl (by kernel_rfl) (by decide) (fun K hK=>?_);go_simp;go_wp2_with (go_at_call 31;refine (C.out _ (Fr.refl _ _).drew).mono ?_;rintro e w' ⟨rfl,rfl⟩);refine hK.out _ _ (HSS.out _ ((Fr.refl (fun _=>False) wr).alloc _).drew) (fun hSr4_11=>?_);clear hK K;try simp only[Act.put,List.setIfInBounds_toArray,List.set_cons_zero,List.set_cons_succ,hlt3,heq3,hgd,hgn])
    refine WL.go [(12,23),(13,24),(14,25),(15,26),(16,27),(17,28),(18,29),(19,30),(20,31),(21,32),(22,33),(23,34),(24,35),(25,36),(26,37),(27,38),(28,39),(29,40),(30,41),(31,42),(32,43),(33,44),(34,45),(35,46),(36,47),(37,48),(38,49),(39,50),(40,51),(41,52),(42,53),(43,54)] ?_;iterate 32 (first|(refine WL.tk (v:=undef) rfl rfl (by kernel_rfl) (fun _ _ _ h=>h) (Or.inr ⟨by rfl,rfl⟩) (by assumption) ?_;simp only[Act.put,List.setIfInBounds_toArray,List.set_cons_zero,List.set_cons_succ,hlt3,heq3,hgd,hgn])|(refine WL.tk (v:=?_) rfl rfl (by kernel_rfl) (fun _ _ _ h=>h) (Or.inl ⟨by rfl,?_⟩) (by assumption) ?_;rotate_left;(focus (intro w hSw;(try obtain⟨s0,s1⟩:=hSw);go_simp;(try with_reducible rfl)));simp only[Act.put,List.setIfInBounds_toArray,List.set_cons_zero,List.set_cons_succ,hlt3,heq3,hgd,hgn]))
    refine WZ.last rfl (by kernel_rfl) (by kernel_rfl) (fun K hK=>?_);go_simp;refine hK.out _ _ ?_;clear hK K
    )
   all_goals go_wp2_with fail
   all_goals (first|go_ret|go_ret2|skip)
   ·exact⟨Zg (HB.out rfl).symm,HR.out.1.drew⟩
   ·exact⟨Zg (HB.out rfl).symm,(HR.out.1.alloc _).drew⟩
   ·go_roundg (xs.length-(i+1))
    case measure=>omega
    case rel=>exact⟨i+1,by go_num,by omega,by omega,(HR.out.1.alloc _).drew,HK.out (by rw[HI0.out];rfl)⟩
   ·exact⟨Zg (HB.out (by rw[beq_eq_false_iff_ne.2 (Nat.ne_of_gt HI0.out)];rfl)).symm,(HR.out.1.alloc _).drew⟩
   ·exact⟨Zg (HB.out (by rw[beq_eq_false_iff_ne.2 (Nat.ne_of_gt HI0.out)];rfl)).symm,(HR.out.1.alloc _).drew⟩
   ·go_roundg (xs.length-(i+1))
    case measure=>omega
    case rel=>exact⟨i+1,by go_num,by omega,by omega,(HR.out.1.alloc _).drew,HK.out (by simp)⟩
  ·have hall:(List.range xs.length).all (Oq xs)=true:=by
    have:=HR.out.2;rw[show i=xs.length by omega]at this;exact this
   by_cases h0:0<xs.length
   ·have h0z:(0:Int)<(xs.length:Int):=by omega
    have e0:Hid (true=Jt xs):=by show _=_;unfold Jt;rw[hall,decide_eq_true h0];rfl
    go_wp2_with fail
    first|go_ret|go_ret2
    exact⟨Zg e0.out,HR.out.1⟩
   ·have h0z:¬ (0:Int)<(xs.length:Int):=by omega
    have e0:Hid (false=Jt xs):=by show _=_;unfold Jt;rw[hall,decide_eq_false h0];rfl
    go_wp2_with fail
    first|go_ret|go_ret2
    exact⟨Zg e0.out,HR.out.1⟩
end Go.Proofs.YtoliamijgmifkaaGreatDoor
