/- laws.ordered (strictly): texts -/
import Derived.Test.YtoliamijgmifkaaGreatDoorH41
import Derived.Deep.WholeRow
set_option linter.all false
set_option maxRecDepth 100000
set_option maxHeartbeats 4000000
namespace Go.Proofs.YtoliamijgmifkaaGreatDoor
section
open Go.RowKit DT SS TR LT
theorem Zji(W W':World)(s:ByteArray)(hs:s.size<=2147483647)(f:Zg (W.alloc (.cells #[.string s] 9)) W'):Calls Tryz.prog 31 #[.slice (some ⟨W.heap.size,0,none⟩) 1 1] W' λe w'=>e=.returned (.bool (Wl s))/\W'=w':=by
 have B:=f.heap (alloc_at W (.cells #[.string s] 9)) id;have hz:=Za W (.cells #[.string s] 9);have hz2:=f.size
 have:=Bx W' (λ_=>True) (some ⟨W.heap.size,0,none⟩) 1 [s] (by
  refine⟨by simp,Or.inr ⟨W.heap.size,0,rfl,trivial,Om,?_⟩⟩;intro k hk;have hk0:k=0:=by simpa using hk
  subst hk0;refine⟨[.string s],⟨rfl,Nt hs (by decide)⟩,?_⟩;intro j hj;have hj0:j=0:=by simpa using hj
  subst hj0
  exact cellAt B 0 _ rfl)
 have e:Kg [s]=Wl s:=by unfold Kg;simp
 rw[e]at this;exact this
theorem Zc6(w:World)(O:Nat->Prop)(A:Option Addr)(c:Nat)(xs:List ByteArray)(h:Ty.str.At w O A xs)(hs:∀ s∈xs,s.size<=2147483647) :
  Calls Tryz.prog 75 #[.slice A xs.length c,.bool true] w λe w'=>e=.returned (.bool (Dx xs))/\Zg w w':=by
 have mixed:Tryz.prog.follows .mixedOrders=true:=Kr
 have hm:=h.1;have HN:=Hd h;have HS:=Hd hs;clear h hs;go_enter Tryz.func75,Tryz.ntmps75
 go_wp2_with fail
 go_loopg [8] xs.length (λg1 v8 wr=>∃ (i:Nat),v8=.int .i64 (i:Int)/\i<=xs.length/\xs.length<=i+g1/\Hid (Zg w wr/\(List.range i).all (Jb xs)=true))
 case atStart=>exact⟨0,rfl,Om,Om,Fl _,rfl⟩
 case round =>
  obtain⟨i,rfl,hi,hg,HR⟩:=hrel;by_cases hlt:i<xs.length
  ·have hlz:(i:Int)<(xs.length:Int):=Om;have hz0:(0:Int)<=(i:Int):=Om
   have HB:Hid (Jb xs i=false->Dx xs=false):=λe=>by
    unfold Dx;rw[Bool.and_eq_false_iff];left;rw[List.all_eq_false];exact⟨i,by simpa using hlt,by simp[e]⟩
   have HK:Hid (Jb xs i=true->(List.range (i+1)).all (Jb xs)=true):=λe=>by
    show _=_;rw[List.range_succ,List.all_append,HR.out.2];simp[e]
   obtain⟨b,o,rfl,_,hbl,e0,hsz⟩:=Ul HN.out i hlt;have hget:xs[i]?=some xs[i]:=Ge hlt;have HM:=Hd (HS.out _ (List.getElem_mem hlt));have hp:i-1<xs.length:=Om;obtain⟨b',o',eA,_,_,e1,_⟩:=Ul HN.out (i-1) hp;cases eA;have hget':xs[i-1]?=some xs[i-1]:=Ge hp;have hord:Jb xs i=((decide (xs[i].size≠0)&&Wl xs[i])&&(i==0||(!Op.bytesLess xs[i].toList xs[i-1].toList && !(xs[i].toList==xs[i-1].toList)))):=by unfold Jb;rw[hget,hget']
   have HSS:Hid (∀ W,Zg wr W->W.cell? ⟨b,o+i,none⟩=some (.string xs[i])/\W.cell? ⟨b,o+(i-1),none⟩=some (.string xs[i-1])):=λW f=>⟨(HR.out.1.trans f (λ_ _ e=>e)).cell e0 id,(HR.out.1.trans f (λ_ _ e=>e)).cell e1 id⟩
   have hez:(xs[i].toList==[]) = !decide (xs[i].size≠0):=by
    rw[ByteArray.toList_eq];have:xs[i].data.toList.length=xs[i].size:=by rw[Array.length_toList];rfl
    cases hl:xs[i].data.toList with
    | nil=>rw[hl]at this;simp at this;simp[<- this]
    | cons x l=>rw[hl]at this;simp at this;simp[<- this]
   have C:Hid (∀ W:World,Zg (wr.alloc (.cells #[.string xs[i]] 9)) W->Calls Tryz.prog 31 #[.slice (some ⟨wr.heap.size,0,none⟩) 1 1] W λe w'=>e=.returned (.bool (Wl xs[i]))/\W=w'):=λW f=>Zji wr W _ HM.out f
   rw[hord]at HB HK;clear hget hget' hord HM e0 e1;generalize xs[i]=s at *;generalize xs[i-1]=p at *;generalize decide (s.size≠0)=ne at *;generalize Wl s=nz at *;obtain⟨bl,hlt2⟩:∃ q,q=Op.bytesLess s.toList p.toList:=⟨_,rfl⟩;obtain⟨be,heq2⟩:∃ q,q=(s.toList==p.toList):=⟨_,rfl⟩;rw[<- hlt2,<- heq2]at HB HK;have hlt3:=hlt2.symm;have heq3:=heq2.symm;clear hlt2 heq2;go_wp2_with fail
   have hz5:(0:Int)<=((i-1:Nat):Int):=Om;have hz4:((i-1:Nat):Int)<(xs.length:Int):=Om;obtain⟨gb,hgd⟩:∃ q,decide ((0:Int)<(i:Int))=q:=⟨_,rfl⟩;have hgn:decide (0<i)=gb:=by rw[<- hgd];exact decide_eq_decide.2 Om
   have hgb:i=0->gb=false:=λe=>by rw[<- hgd];exact decide_eq_false Om
   have hgb2:0<i->gb=true:=λe=>by rw[<- hgd];exact decide_eq_true Om
   have hcs:(ne=false/\0<=i)\/(ne=true/\nz=false/\0<=i)\/(ne=true/\nz=true/\gb=false/\i=0)\/(ne=true/\nz=true/\bl=true/\gb=true/\0<i)\/(ne=true/\nz=true/\bl=false/\be=true/\gb=true/\0<i)\/(ne=true/\nz=true/\bl=false/\be=false/\gb=true/\0<i):=by
    rcases Nat.eq_zero_or_pos i with h|h<;>(first|(have g:=hgb h;clear hgn;subst g)|(have g:=hgb2 h;clear hgn;subst g))<;>cases ne<;>cases nz<;>cases bl<;>cases be<;>simp<;>omega
   have hgt:Hid ((i=0->¬ (0:Int)<(i:Int))/\(0<i->(0:Int)<(i:Int)/\IntKind.i64.wrap ((i:Int)-1)=((i-1:Nat):Int))):=by
    refine⟨λe=>Om,λe=>⟨Om,?_⟩⟩;have:(i:Int)-1=((i-1:Nat):Int):=Om;rw[this];simp[IntKind.wrap,IntKind.min,IntKind.max,IntKind.signed,IntKind.bits];omega
   clear hgb hgb2;rcases hcs with ⟨rfl,hi0⟩|⟨rfl,rfl,hi0⟩|⟨rfl,rfl,rfl,hi0⟩|⟨rfl,rfl,rfl,rfl,hi0⟩|⟨rfl,rfl,rfl,rfl,rfl,hi0⟩|⟨rfl,rfl,rfl,rfl,rfl,hi0⟩
   all_goals (first|have hg1:=hgt.out.1 hi0|skip)
   all_goals (first|have hg2:=hgt.out.2 hi0|skip)
   all_goals (first|obtain⟨hg3,hg4⟩:=hg2|skip)
   all_goals (have HI0:=Hd hi0;clear hi0)
   all_goals (
    refine Yh 44 45 #[false,false,false,false,false,false,false,false,false,false,false,false,false,false,false,false,false,false,false,false,false,false,false,false,false,false,false,false,false,false,false,false,false,false,false,false,false,false,false,false,false,false,false,false,false] (λW=>W.cell? ⟨b,o+i,none⟩=some (.string s)/\W.cell? ⟨b,o+(i-1),none⟩=some (.string p)) mixed rfl rfl (HSS.out wr.drew ((Fl wr).drew)) (λhS=>?_);refine WL.go [(0,11),(1,12),(2,13),(3,14),(4,15),(5,16),(6,17),(7,18),(8,19),(9,20)] ?_;iterate 10 (first|(refine WL.tk (v:=undef) rfl rfl Kr (λ_ _ _ h=>h) (Or.inr ⟨Rf,rfl⟩) (by assumption) ?_;simp only[Act.put,Sa,Sb1,Sc,hlt3,heq3,hgd,hgn])|(refine WL.tk (v:=?_) rfl rfl Kr (λ_ _ _ h=>h) (Or.inl ⟨Rf,?_⟩) (by assumption) ?_;rotate_left;(focus (intro w hSw;(try obtain⟨s0,s1⟩:=hSw);go_simp;(try with_reducible rfl)));simp only[Act.put,Sa,Sb1,Sc,hlt3,heq3,hgd,hgn]))
    first
    | (refine WZ.take (i:=10) (dst:=some 21) (v:=undef) rfl rfl Kr (λ_ _ _ h=>h) (Or.inr ⟨Rf,rfl⟩) (by assumption) ?_;simp only[Act.put,Sa,Sb1,Sc,hlt3,heq3,hgd,hgn])
    | (refine WZ.one (i:=10) rfl Kr (by decide) (λK hK=>?_);go_simp;refine hK.out _ _ (HSS.out _ ((Fe wr).alloc _).drew) (λhSr4_10=>?_);clear hK K;try simp only[Act.put,Sa,Sb1,Sc,hlt3,heq3,hgd,hgn])
    first
    | (refine WZ.take (i:=11) (dst:=some 22) (v:=undef) rfl rfl Kr (λ_ _ _ h=>h) (Or.inr ⟨Rf,rfl⟩) (by assumption) ?_;simp only[Act.put,Sa,Sb1,Sc,hlt3,heq3,hgd,hgn])
    | (refine WZ.one (i:=11) rfl Kr (by decide) (λK hK=>?_);go_simp;go_wp2_with (go_at_call 31;refine (C.out _ (Fl _).drew).mono ?_;rintro e w' ⟨rfl,rfl⟩);refine hK.out _ _ (HSS.out _ ((Fe wr).alloc _).drew) (λhSr4_11=>?_);clear hK K;try simp only[Act.put,Sa,Sb1,Sc,hlt3,heq3,hgd,hgn])
    refine WL.go [(12,23),(13,24),(14,25),(15,26),(16,27),(17,28),(18,29),(19,30),(20,31),(21,32),(22,33),(23,34),(24,35),(25,36),(26,37),(27,38),(28,39),(29,40),(30,41),(31,42),(32,43),(33,44),(34,45),(35,46),(36,47),(37,48),(38,49),(39,50),(40,51),(41,52),(42,53),(43,54)] ?_;iterate 32 (first|(refine WL.tk (v:=undef) rfl rfl Kr (λ_ _ _ h=>h) (Or.inr ⟨Rf,rfl⟩) (by assumption) ?_;simp only[Act.put,Sa,Sb1,Sc,hlt3,heq3,hgd,hgn])|(refine WL.tk (v:=?_) rfl rfl Kr (λ_ _ _ h=>h) (Or.inl ⟨Rf,?_⟩) (by assumption) ?_;rotate_left;(focus (intro w hSw;(try obtain⟨s0,s1⟩:=hSw);go_simp;(try with_reducible rfl)));simp only[Act.put,Sa,Sb1,Sc,hlt3,heq3,hgd,hgn]))
    refine WZ.last rfl Kr Kr (λK hK=>?_);go_simp;refine hK.out _ _ ?_;clear hK K
    )
   all_goals go_wp2_with fail
   all_goals (first|go_ret|go_ret2|skip)
   ·exact⟨Zk (HB.out rfl).symm,HR.out.1.drew⟩
   ·exact⟨Zk (HB.out rfl).symm,(HR.out.1.alloc _).drew⟩
   ·go_roundg (xs.length-(i+1))
    case measure=>omega
    case rel=>exact⟨i+1,by go_num,Om,Om,(HR.out.1.alloc _).drew,HK.out (by rw[HI0.out];rfl)⟩
   ·exact⟨Zk (HB.out (by rw[beq_eq_false_iff_ne.2 (Nat.ne_of_gt HI0.out)];rfl)).symm,(HR.out.1.alloc _).drew⟩
   ·exact⟨Zk (HB.out (by rw[beq_eq_false_iff_ne.2 (Nat.ne_of_gt HI0.out)];rfl)).symm,(HR.out.1.alloc _).drew⟩
   ·go_roundg (xs.length-(i+1))
    case measure=>omega
    case rel=>exact⟨i+1,by go_num,Om,Om,(HR.out.1.alloc _).drew,HK.out (by simp)⟩
  ·have hall:(List.range xs.length).all (Jb xs)=true:=by
    have:=HR.out.2;rw[(Om:i=xs.length)]at this;exact this
   by_cases h0:0<xs.length
   ·have h0z:(0:Int)<(xs.length:Int):=Om;have e0:Hid (true=Dx xs):=by show _=_;unfold Dx;rw[hall,decide_eq_true h0];rfl
    go_wp2_with fail
    first|go_ret|go_ret2
    exact⟨Zk e0.out,HR.out.1⟩
   ·have h0z:¬ (0:Int)<(xs.length:Int):=Om;have e0:Hid (false=Dx xs):=by show _=_;unfold Dx;rw[hall,decide_eq_false h0];rfl
    go_wp2_with fail
    first|go_ret|go_ret2
    exact⟨Zk e0.out,HR.out.1⟩
end
section
open Go.RowKit DT SS TR LT UC Go.Lib
theorem Zld:M9 Tryz.prog 9 1 16:=Ms Kr
theorem Zb5(r:Nat):(Ni r=true/\((r<=32/\decide ((r:Int)<=32)=true)\/r=133\/r=160\/r=12288\/r=8232\/r=8233\/r=8239\/r=8287\/r=5760\/r=65533\/(8192<=r/\r<=8203/\¬ r<=32/\r≠133/\r≠160/\r≠12288)))\/(Ni r=false/\¬ r<=32/\r≠133/\r≠160/\r≠12288/\(¬ 8192<=r\/(8192<=r/\¬ r<=8203))/\r≠8232/\r≠8233/\r≠8239/\r≠8287/\r≠5760/\r≠65533):=by
 cases h:Ni r with
 | true =>
  left;refine⟨rfl,?_⟩;simp only[Ni,Bool.or_eq_true,decide_eq_true_eq,beq_iff_eq,Bool.and_eq_true]at h;rw[decide_eq_true_eq];omega
 | false =>
  right;refine⟨rfl,?_⟩;simp only[Ni,Bool.or_eq_false_iff,decide_eq_false_iff_not,beq_eq_false_iff_ne,Bool.and_eq_false_iff]at h;omega
theorem Du(w:World)(O:Nat->Prop)(A:Option Addr)(c:Nat)(us:List GRec)(h:tRec.At w O A us)(hs:∀ u∈us,u.text.size<=2147483647)(hl:us.length<=2147483647) :
  Calls Tryz.prog 32 #[.slice A us.length c] w λe w'=>e=.returned (.bool (ruB us))/\Zg w w':=by
 obtain⟨n,hn⟩:∃ n,n=us.length:=⟨_,rfl⟩;rw[<- hn]at hl⊢;have HU:=Hd (Ai1 h (Ai1 hs hn));clear h hs hn;go_enter Tryz.func32,Tryz.ntmps32
 go_wp2_with fail
 go_loopg [3,10] n (λg1 v3 v10 wr=>∃ (i:Nat) (u:Value),v3=u/\v10=.int .i64 (i:Int)/\i<=n/\n<=i+g1/\Hid (RowK Ty.str 9 u ((us.take i).map GRec.text) w.heap.size wr/\Zg w wr/\(us.take i).all Kw=true))
 case atStart=>exact⟨0,_,rfl,rfl,Om,Om,RowK.nil _,Fl _,rfl⟩
 case round =>
  obtain⟨i,u,rfl,rfl,hi,hg,HR⟩:=hrel;by_cases hlt:i<n
  ·have hlz:(i:Int)<(n:Int):=Om;have hz0:(0:Int)<=(i:Int):=Om;have hil:i<us.length:=by rw[<- HU.out.2.2];exact hlt
   obtain⟨b,o,p,q,rfl,_,hbl,⟨Ap,cp,ep,_,_,_⟩,⟨Aq,cq,eq,_,_,_⟩,hs1,hs2,e0,e1,e2,e3⟩:=Fy HU.out.1 i hil;cases ep;cases eq;have q0:=HR.out.2.1.cell e0 id;have q1:=HR.out.2.1.cell e1 id;have q2:=HR.out.2.1.cell e2 id;have q3:=HR.out.2.1.cell e3 id;have HB:Hid (Kw us[i]=false->ruB us=false):=λe=>by unfold ruB;rw[Xa Kw _ _ hil e];rfl
   have HK:Hid (Kw us[i]=true->(us.take (i+1)).all Kw=true/\us.take (i+1)=us.take i++[us[i]]):=λe=>⟨Y0 Kw _ _ hil HR.out.2.2 e,List.take_succ_eq_append_getElem hil⟩
   have hsz:=HU.out.2.1 _ (List.getElem_mem hil);clear e0 e1 e2 e3;generalize us[i]=x at *;obtain⟨ANS,hANS⟩:∃ A,A=(Zh x.text).all λc=>!Ni (Xf c):=⟨_,rfl⟩
   have hk:Kw x=(ANS&&(decide (1<=x.tokens.length)&&decide (x.tokens.length=x.yomi.length))):=by rw[hANS];rfl
   have HANS:=Hd hANS;rw[hk]at HB HK;have HL:=Hd HR.out.1.low;clear hANS hk hil;go_upto_region 5 with fail
   obtain⟨rb,hrb⟩:∃ rb,rb=wr.heap.size:=⟨_,rfl⟩;have hbx:=alloc_at wr (.cells #[.string x.text,.slice Ap x.tokens.length cp,.slice Aq x.yomi.length cq,.string x.pos] 53);have XA:Zg wr (wr.alloc (.cells #[.string x.text,.slice Ap x.tokens.length cp,.slice Aq x.yomi.length cq,.string x.pos] 53)):=(Fl _).alloc _;rw[<- hrb]at hbx⊢;have HXA:=Hd (Ai1 XA hrb);clear XA q0 q1 q2 q3 hrb;generalize wr.alloc _=wa at *;have b0:=cell_of hbx 0 (.string x.text) rfl;have HBX:=Hd hbx;clear hbx;go_wp2_with fail
   obtain⟨ib,hib⟩:∃ b,b=wa.heap.size:=⟨_,rfl⟩;rw[<- hib];have HIB:=Hd hib;clear hib b0
   go_loopg [] x.text.size (λg2 wc=>∃ pos:Nat,Hid (wc.heap[ib]?=some (.stringIter x.text pos))/\x.text.size<=pos+g2/\Hid (Zg wa wc)/\Hid ((Xh (x.text.data.toList.drop pos)).all (λc=>!Ni (Xf c))=ANS))
   case atStart=>exact⟨0,by rw[HIB.out];exact World.iter_heap wa x.text 0,Om,(Fl _).alloc _,HANS.symm⟩
   case round =>
    obtain⟨pos,HI,hgp,HX,HA⟩:=hrel;by_cases hp:pos<x.text.size
    ·have hnx:=λty=>N2 (P:=Tryz.prog) HI.out ty hp
     have hszl:x.text.data.toList.length=x.text.size:=by rw[Array.length_toList];rfl
     have hne:x.text.data.toList.drop pos≠[]:=by
      intro e;have:=congrArg List.length e;rw[List.length_drop,hszl]at this;simp at this;omega
     have hch:=chunk_step _ hne;have hru:=Mm hne;rw[decodeL_drop,List.drop_drop]at hch;rw[decodeL_drop]at hru;have hA:=HA.out;rw[hch,List.all_cons,hru]at hA;have hwd:=Lib.width_pos x.text pos;have hrl:=Lib.rune_le x.text pos;have XN:Zg wa (Wj wr ib x.text (pos+(Utf8.decode x.text pos).2)):=HX.out.trans (T2 wr ib x.text _) (λj hj e=>by have:=HIB.out;omega);have IN:=N9 (pos+(Utf8.decode x.text pos).2) HI.out;clear hch hru hne hszl;generalize Utf8.decode x.text pos=dp at hnx hA hwd hrl XN IN;obtain⟨r,wd⟩:=dp;simp only at hnx hA hwd hrl XN IN;have HN:=Hd (Ai1 hA (Ai1 XN IN));clear hA XN IN;rcases Zb5 r with ⟨hw,hcs⟩|⟨hw,h0,h1,h2,h3,h45,h6,h7,h8,h9,h10,h11⟩
     ·have HE:Hid (false=ruB us/\Zg w (Wj wr ib x.text (pos+wd))):=⟨(HB.out (by rw[<- HN.1,hw];rfl)).symm,(HR.out.2.1.trans HXA.out.1 (λ_ _ e=>e)).trans HN.2.1 (λ_ _ e=>e)⟩;clear hw HN hwd;rcases hcs with ⟨h0,h0'⟩|rfl|rfl|rfl|rfl|rfl|rfl|rfl|rfl|rfl|⟨h4,h5,g0,g1,g2,g3⟩
      all_goals (go_wp2_with fail)
      all_goals (first|go_ret|go_ret2)
      all_goals exact⟨Zk HE.out.1,HE.out.2⟩
     ·have HW:=Hd hw;have k0:¬ (r:Int)<=32:=Om;have k1:=beq_eq_false_iff_ne.2 ((Om:(r:Int)≠133));have k2:=beq_eq_false_iff_ne.2 ((Om:(r:Int)≠160));have k3:=beq_eq_false_iff_ne.2 ((Om:(r:Int)≠12288));have k6:=beq_eq_false_iff_ne.2 ((Om:(r:Int)≠8232));have k7:=beq_eq_false_iff_ne.2 ((Om:(r:Int)≠8233));have k8:=beq_eq_false_iff_ne.2 ((Om:(r:Int)≠8239));have k9:=beq_eq_false_iff_ne.2 ((Om:(r:Int)≠8287));have k10:=beq_eq_false_iff_ne.2 ((Om:(r:Int)≠5760));have k11:=beq_eq_false_iff_ne.2 ((Om:(r:Int)≠65533));clear hw h0 h1 h2 h3 h6 h7 h8 h9 h10 h11;rcases h45 with h4|⟨h4,h5⟩
      all_goals (go_wp2_with fail)
      all_goals (go_roundg (x.text.size-(pos+wd)))
      all_goals (first|omega|exact⟨pos+wd,HN.2.2,Om,HN.2.1,by
       have:=HN.1;rw[HW.out,Bool.not_false,Bool.true_and]at this
       exact this⟩)
    ·have hnx:=λty=>V8 (P:=Tryz.prog) HI.out ty hp
     have hszl:x.text.data.toList.length=x.text.size:=by rw[Array.length_toList];rfl
     have EA:Hid (ANS=true):=by
      show _=_;have:=HA.out;rw[List.drop_eq_nil_of_le Om]at this;exact this.symm
     have hb2:=HX.out.heap HBX.out id;have b0:=cell_of hb2 0 (.string x.text) rfl;have b1:=cell_of hb2 1 (.slice Ap x.tokens.length cp) rfl;have b2:=cell_of hb2 2 (.slice Aq x.yomi.length cq) rfl;have lb:rb<wr.heap.size:=lt_of_cell b0;have HXX:=Hd (HXA.out.1.trans HX.out (λ_ _ e=>e));clear hszl hb2;by_cases t1:1<=x.tokens.length
     ·by_cases t2:x.tokens.length=x.yomi.length
      ·have t1z:¬ (x.tokens.length:Int)<1:=Om;have t2z:((x.tokens.length:Int) != (x.yomi.length:Int))=false:=bne_eq_false_iff_eq.2 Om;have HK2:=Hd (HK.out (by rw[EA.out,decide_eq_true t1,decide_eq_true t2];rfl));have HTT:=Hd t2;clear t2
       go_wp2_with (first
        | (at_builtin;refine RowK.lst (v:=u3) rfl _ _ 43 rfl x.text [.string x.text] 16 ⟨wr.heap.size,0,none⟩ Tryz.underlying43 Zld (by decide) Om rfl rfl (HR.out.1.ext (HXX.out.alloc _)) (by rw[List.length_map,List.length_take];omega) (by have:=(HR.out.2.1.trans HXX.out (λ_ _ e=>e)).size;simp;omega) (Z9 _ _) ⟨rfl,hs1⟩ ?_;intro v' w6 hR6 hf6 ha6;have H6:=Hd (Ai1 hR6 hf6);clear hR6 hf6 ha6)
        | fail)
       go_roundg (n-(i+1))
       case measure=>omega
       case rel=>exact⟨i+1,v',rfl,by go_num,Om,Om,by rw[HK2.out.2,List.map_append];exact H6.out.1,((HR.out.2.1.trans HXX.out (λ_ _ e=>e)).alloc _).trans H6.out.2 (λj hj e=>by have:=(HL.out j e).1;omega),HK2.out.1⟩
      ·have HE:Hid (false=ruB us/\Zg w wr):=⟨(HB.out (by rw[decide_eq_false t2,Bool.and_false,Bool.and_false])).symm,HR.out.2.1.trans HXX.out (λ_ _ e=>e)⟩;have t1z:¬ (x.tokens.length:Int)<1:=Om;have t2z:((x.tokens.length:Int) != (x.yomi.length:Int))=true:=bne_iff_ne.2 Om;go_wp2_with fail
       first|go_ret|go_ret2
       exact⟨Zk HE.out.1,HE.out.2⟩
     ·have HE:Hid (false=ruB us/\Zg w wr):=⟨(HB.out (by rw[decide_eq_false t1,Bool.false_and,Bool.and_false])).symm,HR.out.2.1.trans HXX.out (λ_ _ e=>e)⟩;have t1z:(x.tokens.length:Int)<1:=Om;go_wp2_with fail
      first|go_ret|go_ret2
      exact⟨Zk HE.out.1,HE.out.2⟩
  ·obtain rfl:i=n:=Om
   have htk:us.take i=us:=by rw[HU.out.2.2];exact List.take_length
   have hsl:=HR.out.1.slice;rw[htk]at hsl;have hall:=HR.out.2.2;rw[htk]at hall;obtain⟨A3,c3,e3,_,_,hat⟩:=hsl;simp only[List.cons.injEq,and_true]at e3;rw[List.length_map,<- HU.out.2.2]at e3;have CO:=Hd (Zc6 wr _ A3 c3 (us.map GRec.text) hat (λs hs=>by obtain⟨u,hu,rfl⟩:=List.mem_map.1 hs;exact HU.out.2.1 u hu));rw[List.length_map,<- HU.out.2.2]at CO;have HE:Hid (Dx (us.map GRec.text)=ruB us):=by show _=_;unfold ruB;rw[hall,Bool.true_and]
   clear hat hall;subst e3
   go_wp2_with (first
    | (go_at_call 75;refine CO.out.mono ?_;rintro e w2 ⟨rfl,hx⟩;have HX:=Hd hx;clear hx)
    | fail)
   first|go_ret|go_ret2
   exact⟨Zk HE.out,HR.out.2.1.trans HX.out (λ_ _ e=>e)⟩
theorem J3(w:World)(O Oi:Nat->Prop)(d:Zj)(cs:List Value)(A:Option Addr)(c:Nat)(xs:List ByteArray)(h:tDict.R w O d cs)(hf:Yn d=true)(hT:U8 w)(hx:Ty.str.At w Oi A xs) :
  Calls Tryz.prog 10 #[.agg cs.toArray,.slice A xs.length c] w λe w'=>e=.returned (.bool (Tn d xs))/\Zg w w':=by
 refine Zlu w O Oi d cs A c xs h hf hT hx (λW B k hat=>Du W O B k d.user hat (λu hu=>?_) ?_)
 ·have hf:=hf;unfold Yn at hf;simp only[Bool.and_eq_true]at hf;have:=List.all_eq_true.1 hf.2.2.2.2.2.2.2.2 u hu;unfold Wn at this;rw[Bool.and_eq_true]at this;simpa [Yr] using this.1
 ·have hf:=hf;unfold Yn at hf;simp only[Bool.and_eq_true]at hf;simpa [Yr] using hf.2.2.2.2.2.2.2.1
end
section
open Go.RowKit DT SS TR LT
def usL(d:Zj):List GRec:=if d.hasUser then Fb d else []
def Dm(d:Zj)(us:List GRec)(x:Nd):Prop :=
 x.cls<=3/\(x.cls=1->∃ i:Nat,x.id=i/\i<(Zv d).length)/\(x.cls=2->∃ i:Nat,x.id=i/\i<(Zf d).length)/\(x.cls=3->∃ i:Nat,x.id=i/\i<us.length)
theorem Db{d:Zj}{us:List GRec}{x:Nd}(h:x.cls=0):Dm d us x :=
 ⟨Om,λe=>absurd (h.symm.trans e) (by decide),λe=>absurd (h.symm.trans e) (by decide),λe=>absurd (h.symm.trans e) (by decide)⟩
theorem Znu{d:Zj}(hr:Zp d=true)(hd:Gw d)(uk:Option (List ByteArray))(us:List GRec)(hu:∀ ks,uk=some ks->Y3 ks/\ks.length=us.length){s:ByteArray}(hs:Rd s):∀ x∈lat (Zz d uk) s,Dm d us x:=by
 intro x hx;unfold lat Uc at hx;rcases List.mem_cons.1 hx with rfl|hx
 ·exact Db rfl
 rcases List.mem_cons.1 hx with rfl|hx
 ·exact Db rfl
 obtain⟨k,hk,hx⟩:=List.mem_flatMap.1 hx;have hk:k<(Zh s).length:=by rw[<- Rj];exact List.mem_range.1 hk
 have known:∀ x∈Vq (Zz d uk) s k (bp (Zh s) k),Dm d us x:=λx hx=>by
  obtain⟨y,hy,rfl⟩:=List.mem_map.1 hx;obtain⟨hi,_⟩:=Ns (Mq hr hd) hy;rw[List.length_map]at hi;exact⟨by show 1<=3;omega,λ_=>⟨y.1,rfl,hi⟩,λe=>absurd (show (1:Nat)=2 from e) (by decide),λe=>absurd (show (1:Nat)=3 from e) (by decide)⟩
 have user:∀ x∈Uw (Zz d uk) s k (bp (Zh s) k),Dm d us x:=λx hx=>by
  cases uk with
  | none=>cases hx
  | some ks =>
   obtain⟨y,hy,rfl⟩:=List.mem_map.1 hx;obtain⟨hi,_⟩:=Ns (hu ks rfl).1 hy;rw[(hu ks rfl).2]at hi;exact⟨by show 3<=3;omega,λe=>absurd (show (3:Nat)=1 from e) (by decide),λe=>absurd (show (3:Nat)=2 from e) (by decide),λ_=>⟨y.1,rfl,hi⟩⟩
 have unk:∀ x∈Ld (Zz d uk) s (Zh s) k,Dm d us x:=λx hx=>by
  have hm:=(Jd hr uk _ (De hr uk (Xf ((Zh s).getD k [])))).2.2;obtain⟨i,hi,hx⟩:=List.mem_flatMap.1 hx;have hi:=List.mem_range.1 hi
  have key:∀ p l,Dm d us (Xm s k p 2 ((Zz d uk).unk.getD ((Zz d uk).idx ((Zz d uk).cat (Xf ((Zh s).getD k [])))+i) default) ((Zz d uk).idx ((Zz d uk).cat (Xf ((Zh s).getD k [])))+i) l):=λp l =>
   ⟨by show 2<=3;omega,λe=>absurd (show (2:Nat)=1 from e) (by decide),λ_=>⟨_,rfl,Om⟩,λe=>absurd (show (2:Nat)=3 from e) (by decide)⟩
  rcases List.mem_append.1 hx with hx|hx
  ·split at hx
   ·rw[List.mem_singleton.1 hx];exact key _ _
   ·cases hx
  ·rw[List.mem_singleton.1 hx];exact key _ _
 unfold Xs at hx
 split at hx
 ·rcases List.mem_append.1 hx with hx|hx
  ·exact known x hx
  ·split at hx
   ·exact unk x hx
   ·cases hx
 ·exact user x hx
structure Zp6(d:Zj)(us:List GRec)(x:Nd):Prop where
 cls:Dm d us x
 id:-1<=x.id/\x.id<=1000000
 pos:x.pos<=2000000
 start:x.start<=2000000
 size:x.surf.size<=1000
theorem Zkz{d:Zj}(hr:Zp d=true)(hd:Gw d)(uk:Option (List ByteArray))(us:List GRec)(hu:∀ ks,uk=some ks->Y3 ks/\ks.length=us.length){s:ByteArray}(hs:Rd s)(hsz:s.size<=300)(mode:Int):∀ y∈I3 (Zz d uk) mode s,Zp6 d us y:=by
 intro y hy;obtain⟨h1,h2⟩:=Zgv hr hd uk (λks e=>(hu ks e).1) hs hsz mode y hy;obtain⟨m,hm,hy⟩:=List.mem_flatMap.1 hy;have hlo:=Jg hr hd uk (λks e=>(hu ks e).1) hs hsz
 have t1:1<(lat (Zz d uk) s).length:=by
  have:lat (Zz d uk) s=Nn::M6 s::(List.range (Lib.runeCount s)).flatMap (Xs (Zz d uk) s (Zh s)):=rfl;rw[this,List.length_cons,List.length_cons];omega
 have hml:=Mh (J5 (Zz d uk) mode _ hlo.2 _) _ _ t1 m hm;have e:(lat (Zz d uk) s).getD m default=(lat (Zz d uk) s)[m]:=by rw[List.getD_eq_getElem?_getD,Ge hml];rfl
 rw[e]at hy;have hx:=hlo.1 _ (List.getElem_mem hml);have hc:=Znu hr hd uk us hu hs _ (List.getElem_mem hml);generalize (lat (Zz d uk) s)[m]=x at *;unfold Xd at hy
 split at hy
 ·rw[List.mem_singleton.1 hy]at h1 h2⊢;exact⟨hc,hx.id,by have:=hx.pos;omega,h1,h2⟩
 ·rw[List.mem_reverse]at hy;obtain⟨i,hi,rfl⟩:=List.mem_map.1 hy;refine⟨Db rfl,hx.id,?_,h1,h2⟩;show x.pos+bp (Zh x.surf) i<=2000000;have:=Ic x.surf i;have:=hx.size;have:=hx.pos;omega
theorem B9(om:Bool)(l:List Nd):∀ i,i<=l.length->∀ t∈Vs om l i,t.index<(Vs om l i).length/\∃ x∈l,t.id=x.id/\t.cls=x.cls/\t.pos=x.pos/\t.start=x.start/\t.fin=x.start+Lib.runeCount x.surf/\(t.surf=x.surf\/t.surf.size=3)
 | 0,_,t,ht=>by cases ht
 | i+1,hi,t,ht=>by
  have ih:=B9 om l i Om;unfold Vs Ng at ht⊢
  split at ht
  ·next h=>rw[if_pos h];exact ih t ht
  ·next h =>
   rw[if_neg h];rcases List.mem_append.1 ht with ht|ht
   ·obtain⟨a,b⟩:=ih t ht;refine⟨?_,b⟩;rw[List.length_append,List.length_singleton];omega
   ·have e:=List.mem_singleton.1 ht;subst e;refine⟨?_,l.getD i default,?_,rfl,rfl,rfl,rfl,rfl,?_⟩
    ·rw[List.length_append,List.length_singleton];exact Nat.lt_succ_self _
    ·rw[List.getD_eq_getElem?_getD,Ge ((Om:i<l.length))];exact List.getElem_mem ((Om:i<l.length))
    ·show (if _ then _ else _)=_\/(if _ then _ else _:ByteArray).size=3
     split
     ·right;split<;>rfl
     ·exact .inl rfl
theorem Re{d:Zj}(hr:Zp d=true)(hd:Gw d)(uk:Option (List ByteArray))(us:List GRec)(hu:∀ ks,uk=some ks->Y3 ks/\ks.length=us.length){s:ByteArray}(hs:Rd s)(hsz:s.size<=300)(om:Bool)(mode:Int):∀ t∈Xn (Zz d uk) om mode s,Uf d us t:=by
 intro t ht;have hl:=Vl hr hd uk (λks e=>(hu ks e).1) hs hsz om mode;obtain⟨h1,x,hx,e1,e2,e3,e4,e5,e6⟩:=B9 om _ _ (by rw[List.length_reverse];exact Nl _) t ht;have h:=Zkz hr hd uk us hu hs hsz mode x (List.mem_reverse.1 hx);have hrc:=Lib.runeCount_le x.surf;obtain⟨c1,c2,c3,c4⟩:=h.cls;refine⟨by rw[e2];exact c1,by rw[e1,e2];exact c2,by rw[e1,e2];exact c3,by rw[e1,e2];exact c4,?_⟩;have hp:=h.pos;have hst:=h.start;have hsz:=h.size;refine⟨by unfold Xn at hl;omega,by rw[e1];exact h.id,Om,Om,Om,?_⟩;rcases e6 with e|e
 ·rw[e];exact hsz
 ·omega
theorem Cq{s:ByteArray}:∀ {l:List ByteArray},s∈l->s.size+1<=total l
 | x::l,h=>by
  show s.size+1<=x.size+1+total l;rcases List.mem_cons.1 h with rfl|h
  ·omega
  ·have:=Cq h;omega
theorem Fj{d:Zj}(h:Wx d=true):(∀ u∈d.words,(u.pos.length<=20/\u.contents.length<=20)/\(∀ s∈u.pos,s.size<=4000))/\(∀ u∈d.unknown,u.contents.length<=20)/\d.words.length<=60/\d.unknown.length<=30/\d.meta0.length<=20/\d.unkMeta.length<=20/\d.chars.length<=30/\d.user.length<=30/\total (U3 d)<=4000:=by
 unfold Wx at h;simp only[Bool.and_eq_true,List.all_eq_true,decide_eq_true_eq]at h;obtain⟨h1,h2,_,h4,h5,h6,h7,h8,_,h10,h11⟩:=h;refine⟨λu hu=>?_,λu hu=>?_,h4,h5,h6,h7,h8,h10,?_⟩
 ·have:=h1 u hu;unfold Vw Mx at this;simp only[Bool.and_eq_true,decide_eq_true_eq,List.map_cons,List.map_nil,List.sum_cons,List.sum_nil]at this;refine⟨⟨this.1,this.2.1⟩,λs hs=>?_⟩;have h3:=Cq hs;omega
 ·have:=h2 u hu;unfold Ra at this;simp only[Bool.and_eq_true,decide_eq_true_eq]at this;exact this.1
 ·unfold Mx at h11;simpa using h11
theorem J2{d:Zj}{s:ByteArray}(h:Tn d [s]=true)(hf:Yn d=true):(Rd s/\s.size<=300)/\Zp d=true/\Gw d/\Zbq d/\usL d=(if d.hasUser then d.user else []):=by
 unfold Tn at h;simp only[Bool.and_eq_true,List.all_cons,List.all_nil,Bool.and_true,Bool.or_eq_true,Bool.not_eq_true']at h;obtain⟨h1,h2,h3,h4,h5⟩:=h;obtain⟨k1,k2,k3,k4,k5,k6,k7,k8,k9⟩:=Fj h4
 have hsum:Og (d.words.map GWord.surface)+Og (d.user.map GRec.text)<=4000:=by
  have e:total (U3 d)=Og (d.words.map GWord.surface)+Og (d.user.map GRec.text):=by
   unfold total U3 Og;rw[List.map_append,List.sum_append,List.map_map,List.map_map];try rfl
  omega
 unfold Yn at hf;simp only[Bool.and_eq_true,List.all_eq_true]at hf;have hrec:=hf.2.2.2.2.2.2.2.2
 have hus:d.hasUser=true->Zga d.user:=λhu=>by
  rcases h3 with q|q
  ·rw[hu]at q;cases q
  ·refine Zmu q (λu hu=>?_) Om Om;have:=hrec u hu;unfold Wn at this;rw[Bool.and_eq_true]at this;simpa [Yr] using this.1
 have hid:d.hasUser=true->Fb d=d.user:=λhu=>Zkc Vo C9 d.user (by
  have:=(hus hu).asc;rw[List.pairwise_map]at this
  exact this)
 refine⟨(Znh s).1 h1,h5,⟨Om,λu hu=>?_,Om,λu hu=>?_,Om,Om,Om,Om⟩,λhu=>⟨by rw[hid hu];exact hus hu,λu hm=>?_⟩,?_⟩
 ·have:=(k1 u hu).1;omega
 ·have:=k2 u hu;omega
 ·have:=hrec u hm;unfold Wn Vh at this;simp only[Bool.and_eq_true,Yr,decide_eq_true_eq]at this;omega
 ·unfold usL
  split
  ·next hu=>exact hid hu
  ·rfl
theorem Rk{d:Zj}(h:Zbq d):∀ ks,Vg d=some ks->Y3 ks/\ks.length=(usL d).length:=by
 intro ks e;refine⟨Uh h ks e,?_⟩;unfold Vg at e;unfold usL
 split at e
 ·next hu=>cases e;rw[if_pos hu,List.length_map]
 ·cases e
theorem Gp{d:Zj}{s:ByteArray}(h:Tn d [s]=true)(hf:Yn d=true)(hb:∀ u∈d.user,total u.tokens<=1048576/\total u.yomi<=1048576){om:Bool}{mode:Int}{W w':World}{v:Value}{kd H U ku:Nat}(ha:Zho d (Vg d) (xOf d) om mode s W v kd H U ku w'):Vf d (usL d) kd (Zin (Vg d) ku) H U w':=by
 obtain⟨_,hr,hd,hu,e⟩:=J2 h hf
 have hs:Wx d=true:=by
  unfold Tn at h;simp only[Bool.and_eq_true]at h;exact h.2.2.2.1
 obtain⟨k1,k2,k3,_⟩:=Fj hs;have hm:=On hr;refine⟨ha.2.1,λhne=>?_,by rw[Gy];omega,⟨λu hu=>?_,λu hu=>?_,λu hm=>?_⟩,λm h=>?_,λm h=>?_⟩
 ·have hh:d.hasUser=true:=by
   unfold usL at hne
   split at hne
   ·assumption
   ·exact absurd rfl hne
  have hx:=ha.2.2.2.1;unfold xOf at hx;rw[hh]at hx;refine⟨ku,?_,?_⟩
  ·unfold Vg;rw[hh];rfl
  ·unfold usL;rw[hh];exact hx
 ·have hu:=(sortL_perm Wq d.words).mem_iff.1 hu;obtain⟨⟨a,b⟩,c⟩:=k1 u hu;exact⟨Om,Om,λs hs=>by have:=c s hs;omega⟩
 ·have hu:=(sortL_perm Rb d.unknown).mem_iff.1 hu;have:=k2 u hu;omega
 ·rw[e]at hm
  split at hm
  ·next hh =>
   have h1:=(hu hh).1
   have hid:Fb d=d.user:=by
    unfold usL at e;rw[hh]at e;exact e
   rw[hid]at h1;exact⟨(h1.toks u hm).1,(h1.toks u hm).2,hb u hm⟩
  ·cases hm
 ·obtain⟨x,hx,rfl⟩:=List.mem_map.1 h;exact hm x (List.mem_append_left _ hx)
 ·obtain⟨x,hx,rfl⟩:=List.mem_map.1 h;exact hm x (List.mem_append_right _ hx)
end
section
open Go.RowKit DT SS TR LT
theorem RowK.elem{α:Type}{d:Ty α}{T:TypeId}{A:Option Addr}{n c:Nat}{xs:List α}{B:Nat}{w:World}(h:RowK d T (.slice A n c) xs B w)(i:Nat)(hi:i<xs.length):∃ b o cs,A=some ⟨b,o,none⟩/\b<w.heap.size/\d.R w (λ_=>True) xs[i] cs/\∀ j (hj:j<cs.length),w.cell? ⟨b,o+i*d.sz+j,none⟩=some cs[j]:=by
 obtain⟨A',c',e,_,_,_,h1⟩:=h.slice;simp only[List.cons.injEq,Value.slice.injEq,and_true]at e;obtain⟨rfl,rfl,rfl⟩:=e;rcases h1 with rfl|⟨b,o,rfl,_,hl,hc⟩
 ·simp at hi
 ·obtain⟨cs,hr,hcs⟩:=hc i hi;exact⟨b,o,cs,rfl,hl,d.mono (λ_ _ _=>trivial) hr,hcs⟩
theorem Xr(W:World)(s:ByteArray)(hs:s.size<=9223372036854775807):Ty.str.At (W.alloc (.cells #[.string s] 9)) (λ_=>True) (some ⟨W.heap.size,0,none⟩) [s]:=by
 refine⟨by simp,.inr ⟨_,_,rfl,trivial,by rw[Za];omega,λi hi=>?_⟩⟩;have:i=0:=by simpa using hi
 subst this;refine⟨[.string s],⟨rfl,hs⟩,λj hj=>?_⟩;have:j=0:=by simpa using hj
 subst this;exact cell_of (alloc_at _ _) 0 _ rfl
theorem Znc{w wr:World}{B n:Nat}{A:Option Addr}{c:Nat}{ts:List Yu}{S:Nat->Prop}(h:w.ownsRow B 42 7 (.slice A n c) n (ts.flatMap Ru))(f:Fr S w wr)(hS:∀ j,B<=j->j<w.heap.size->¬ S j)(hn:n=ts.length)(i:Nat)(hi:i<ts.length) :
  ∃ g,A=some ⟨g,0,none⟩/\g<wr.heap.size/\∀ j (hj:j<7),wr.cell? ⟨g,i*7+j,none⟩=(Ru ts[i])[j]?:=by
 subst hn
 have hget:∀ j,j<7->∃ g,A=some ⟨g,0,none⟩/\wr.cell? ⟨g,i*7+j,none⟩=(Ru ts[i])[j]? /\ g<wr.heap.size:=λj hj=>by
  obtain⟨g,c',e,ec,hg⟩:=Xq h (i*7+j) Om;simp only[Value.slice.injEq]at e;obtain⟨rfl,_,rfl⟩:=e;rw[flat_get Ru 7 (λ_=>rfl) ts i j hi hj]at ec;have h7:j<(Ru ts[i]).length:=hj;rw[Ge h7]at ec⊢;have hgl:=lt_of_cell ec;exact⟨g,rfl,f.cell ec (hS g (Yy (g:=g) h hg) hgl),Nat.lt_of_lt_of_le hgl f.size⟩
 obtain⟨g,rfl,_,hg⟩:=hget 0 Om;refine⟨g,rfl,hg,λj hj=>?_⟩;obtain⟨g',eg,e,_⟩:=hget j hj;cases eg;exact e
end
section
open Go.RowKit DT SS TR LT Go
theorem Zl9(w:World):(Instr.alloc 50 true (.tuple #[])).run Tryz.prog w=.ok (.pointer (some ⟨w.heap.size,0,none⟩)) (w.alloc (.cells #[.slice none 0 0,.slice none 0 0,.string ⟨#[]⟩,.bool false,.string ⟨#[]⟩,.bool false,.string ⟨#[]⟩,.bool false,.string ⟨#[]⟩,.bool false,.string ⟨#[]⟩,.bool false,.bool false,.slice none 0 0,.slice none 0 0,.string ⟨#[]⟩,.string ⟨#[]⟩,.string ⟨#[]⟩,.string ⟨#[]⟩,.string ⟨#[]⟩] Tb)):=by
 go_simp
theorem Kl{P:Program}{ops:Array Oper}{rest:List Oper}{oa os:Oper}{a:Act}{w:World}{Q:Exit->Act->World->Prop}(hga:oa.guard=none)(hgs:os.guard=none)(T:TypeId)(d:Tmp)(hoa:oa.op=.alloc T)(hda:oa.dst=some d)(y:Operand)(hos:os.op=.store T (.tmp d) y)(hds:os.dst=none)
  (Z C:Array Value) (hz:∀ w,(Instr.alloc T true (.tuple #[])).run P w=.ok (.pointer (some ⟨w.heap.size,0,none⟩)) (w.alloc (.cells Z T))) (hx:(a.put (some d) (.pointer (some ⟨w.heap.size,0,none⟩))).eval (.tmp d)=.pointer (some ⟨w.heap.size,0,none⟩)) (hy:(a.put (some d) (.pointer (some ⟨w.heap.size,0,none⟩))).eval y=.agg C)
  (hi:(P.info? T).map (·.size)=some C.size) (hs:Z.size=C.size) (h1:C.all (·.oneCell')=true)
  (h:wpList P ops Q rest (a.put (some d) (.pointer (some ⟨w.heap.size,0,none⟩))) (w.alloc (.cells C T))):wpList P ops Q (oa::os::rest) a w:=by
 refine wpList_plain hga λK hK=>?_
 unfold Oper.wp execOp;simp only[hoa,Sem.run_bind,Sem.run_pure,Result.andThen_ok,hz,Oper.upon];refine hK _ _ ?_;rw[hda];refine wpList_plain hgs λK2 hK2=>?_
 unfold Oper.wp execOp;simp only[hos,hx,hy,run_storeAt_new (P:=P) w T Z C hi hs h1,Sem.run_bind,Sem.run_pure,Result.andThen_ok,Oper.upon];refine hK2 _ _ ?_;rw[hds];exact h
end
end Go.Proofs.YtoliamijgmifkaaGreatDoor
