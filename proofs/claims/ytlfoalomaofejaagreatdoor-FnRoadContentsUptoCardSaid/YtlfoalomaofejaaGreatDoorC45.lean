/- laws.ordered (strictly): texts -/
import Derived.Test.YtlfoalomaofejaaGreatDoorC44
set_option linter.all false
set_option maxRecDepth 100000
set_option maxHeartbeats 4000000
namespace Go.Proofs.YtlfoalomaofejaaGreatDoor
section
open Go.RowKit DT SS TR LT
theorem Zgj(W W':World)(s:ByteArray)(hs:s.size<=2147483647)(f:Zf (W.alloc (.cells #[.string s] 9)) W'):Calls Tryz.prog 41 #[.slice (some ⟨W.heap.size,0,none⟩) 1 1] W' λe w'=>e=.returned (.bool (Wf s))/\W'=w':=by
 have B:=f.heap (alloc_at W (.cells #[.string s] 9)) id;have hz:=Za W (.cells #[.string s] 9);have hz2:=f.size
 have:=Fa W' (λ_=>True) (some ⟨W.heap.size,0,none⟩) 1 [s] (by
  refine⟨by simp,Or.inr ⟨W.heap.size,0,rfl,trivial,Om,?_⟩⟩;intro k hk;have hk0:k=0:=by simpa using hk
  subst hk0;refine⟨[.string s],⟨rfl,Nt hs (by decide)⟩,?_⟩;intro j hj;have hj0:j=0:=by simpa using hj
  subst hj0
  exact cellAt B 0 _ rfl)
 have e:O9 [s]=Wf s:=by unfold O9;simp
 rw[e]at this;exact this
theorem Zab(w:World)(O:Nat->Prop)(A:Option Addr)(c:Nat)(xs:List ByteArray)(h:Ty.str.At w O A xs)(hs:∀ s∈xs,s.size<=2147483647) :
  Calls Tryz.prog 85 #[.slice A xs.length c,.bool true] w λe w'=>e=.returned (.bool (He xs))/\Zf w w':=by
 have mixed:Tryz.prog.follows .mixedOrders=true:=Kr
 have hm:=h.1;have HN:=Hd h;have HS:=Hd hs;clear h hs;go_enter Tryz.func85,Tryz.ntmps85
 go_wp2_with fail
 go_loopg [8] xs.length (λg1 v8 wr=>∃ (i:Nat),v8=.int .i64 (i:Int)/\i<=xs.length/\xs.length<=i+g1/\Hid (Zf w wr/\(List.range i).all (Nu xs)=true))
 case atStart=>exact⟨0,rfl,Om,Om,Fl _,rfl⟩
 case round =>
  obtain⟨i,rfl,hi,hg,HR⟩:=hrel;by_cases hlt:i<xs.length
  ·have hlz:(i:Int)<(xs.length:Int):=Om;have hz0:(0:Int)<=(i:Int):=Om
   have HB:Hid (Nu xs i=false->He xs=false):=λe=>by
    unfold He;rw[Bool.and_eq_false_iff];left;rw[List.all_eq_false];exact⟨i,by simpa using hlt,by simp[e]⟩
   have HK:Hid (Nu xs i=true->(List.range (i+1)).all (Nu xs)=true):=λe=>by
    show _=_;rw[List.range_succ,List.all_append,HR.out.2];simp[e]
   obtain⟨b,o,rfl,_,hbl,e0,hsz⟩:=Vw HN.out i hlt;have hget:xs[i]?=some xs[i]:=Ge hlt;have HM:=Hd (HS.out _ (List.getElem_mem hlt));have hp:i-1<xs.length:=Om;obtain⟨b',o',eA,_,_,e1,_⟩:=Vw HN.out (i-1) hp;cases eA;have hget':xs[i-1]?=some xs[i-1]:=Ge hp;have hord:Nu xs i=((decide (xs[i].size≠0)&&Wf xs[i])&&(i==0||(!Op.bytesLess xs[i].toList xs[i-1].toList && !(xs[i].toList==xs[i-1].toList)))):=by unfold Nu;rw[hget,hget']
   have HSS:Hid (∀ W,Zf wr W->W.cell? ⟨b,o+i,none⟩=some (.string xs[i])/\W.cell? ⟨b,o+(i-1),none⟩=some (.string xs[i-1])):=λW f=>⟨(HR.out.1.trans f (λ_ _ e=>e)).cell e0 id,(HR.out.1.trans f (λ_ _ e=>e)).cell e1 id⟩
   have hez:(xs[i].toList==[]) = !decide (xs[i].size≠0):=by
    rw[ByteArray.toList_eq];have:xs[i].data.toList.length=xs[i].size:=by rw[Array.length_toList];rfl
    cases hl:xs[i].data.toList with
    | nil=>rw[hl]at this;simp at this;simp[<- this]
    | cons x l=>rw[hl]at this;simp at this;simp[<- this]
   have C:Hid (∀ W:World,Zf (wr.alloc (.cells #[.string xs[i]] 9)) W->Calls Tryz.prog 41 #[.slice (some ⟨wr.heap.size,0,none⟩) 1 1] W λe w'=>e=.returned (.bool (Wf xs[i]))/\W=w'):=λW f=>Zgj wr W _ HM.out f
   rw[hord]at HB HK;clear hget hget' hord HM e0 e1;generalize xs[i]=s at *;generalize xs[i-1]=p at *;generalize decide (s.size≠0)=ne at *;generalize Wf s=nz at *;obtain⟨bl,hlt2⟩:∃ q,q=Op.bytesLess s.toList p.toList:=⟨_,rfl⟩;obtain⟨be,heq2⟩:∃ q,q=(s.toList==p.toList):=⟨_,rfl⟩;rw[<- hlt2,<- heq2]at HB HK;have hlt3:=hlt2.symm;have heq3:=heq2.symm;clear hlt2 heq2;go_wp2_with fail
   have hz5:(0:Int)<=((i-1:Nat):Int):=Om;have hz4:((i-1:Nat):Int)<(xs.length:Int):=Om;obtain⟨gb,hgd⟩:∃ q,decide ((0:Int)<(i:Int))=q:=⟨_,rfl⟩;have hgn:decide (0<i)=gb:=by rw[<- hgd];exact decide_eq_decide.2 Om
   have hgb:i=0->gb=false:=λe=>by rw[<- hgd];exact decide_eq_false Om
   have hgb2:0<i->gb=true:=λe=>by rw[<- hgd];exact decide_eq_true Om
   have hcs:(ne=false/\0<=i)\/(ne=true/\nz=false/\0<=i)\/(ne=true/\nz=true/\gb=false/\i=0)\/(ne=true/\nz=true/\bl=true/\gb=true/\0<i)\/(ne=true/\nz=true/\bl=false/\be=true/\gb=true/\0<i)\/(ne=true/\nz=true/\bl=false/\be=false/\gb=true/\0<i):=by
    rcases Nat.eq_zero_or_pos i with h|h<;>(first|(have g:=hgb h;clear hgn;subst g)|(have g:=hgb2 h;clear hgn;subst g))<;>cases ne<;>cases nz<;>cases bl<;>cases be<;>simp<;>omega
   have hgt:Hid ((i=0->¬ (0:Int)<(i:Int))/\(0<i->(0:Int)<(i:Int)/\IntKind.i64.wrap ((i:Int)-1)=((i-1:Nat):Int))):=by
    refine⟨λe=>Om,λe=>⟨Om,?_⟩⟩;have:(i:Int)-1=((i-1:Nat):Int):=Om;rw[this];simp[IntKind.wrap,IntKind.min,IntKind.max,IntKind.signed,IntKind.bits];omega
   clear hgb hgb2;rcases hcs with ⟨rfl,hi0⟩|⟨rfl,rfl,hi0⟩|⟨rfl,rfl,rfl,hi0⟩|⟨rfl,rfl,rfl,rfl,hi0⟩|⟨rfl,rfl,rfl,rfl,rfl,hi0⟩|⟨rfl,rfl,rfl,rfl,rfl,hi0⟩
   all_goals (first|have hg1:=hgt.out.1 hi0|skip)
   all_goals (first|have hg2:=hgt.out.2 hi0|skip)
   all_goals (first|obtain⟨hg3,hg4⟩:=hg2|skip)
   all_goals (have HI0:=Hd hi0;clear hi0)
   all_goals (
    refine Ya 44 45 #[false,false,false,false,false,false,false,false,false,false,false,false,false,false,false,false,false,false,false,false,false,false,false,false,false,false,false,false,false,false,false,false,false,false,false,false,false,false,false,false,false,false,false,false,false] (λW=>W.cell? ⟨b,o+i,none⟩=some (.string s)/\W.cell? ⟨b,o+(i-1),none⟩=some (.string p)) mixed rfl rfl (HSS.out wr.drew ((Fl wr).drew)) (λhS=>?_);refine WL.go [(0,11),(1,12),(2,13),(3,14),(4,15),(5,16),(6,17),(7,18),(8,19),(9,20)] ?_;iterate 10 (first|(refine WL.tk (v:=undef) rfl rfl Kr (λ_ _ _ h=>h) (Or.inr ⟨Rf,rfl⟩) (by assumption) ?_;simp only[Act.put,Sa,Sb1,Sc,hlt3,heq3,hgd,hgn])|(refine WL.tk (v:=?_) rfl rfl Kr (λ_ _ _ h=>h) (Or.inl ⟨Rf,?_⟩) (by assumption) ?_;rotate_left;(focus (intro w hSw;(try obtain⟨s0,s1⟩:=hSw);go_simp;(try with_reducible rfl)));simp only[Act.put,Sa,Sb1,Sc,hlt3,heq3,hgd,hgn]))
    first
    | (refine WZ.take (i:=10) (dst:=some 21) (v:=undef) rfl rfl Kr (λ_ _ _ h=>h) (Or.inr ⟨Rf,rfl⟩) (by assumption) ?_;simp only[Act.put,Sa,Sb1,Sc,hlt3,heq3,hgd,hgn])
    | (refine WZ.one (i:=10) rfl Kr (by decide) (λK hK=>?_);go_simp;refine hK.out _ _ (HSS.out _ ((Fe wr).alloc _).drew) (λhSr4_10=>?_);clear hK K;try simp only[Act.put,Sa,Sb1,Sc,hlt3,heq3,hgd,hgn])
    first
    | (refine WZ.take (i:=11) (dst:=some 22) (v:=undef) rfl rfl Kr (λ_ _ _ h=>h) (Or.inr ⟨Rf,rfl⟩) (by assumption) ?_;simp only[Act.put,Sa,Sb1,Sc,hlt3,heq3,hgd,hgn])
    | (refine WZ.one (i:=11) rfl Kr (by decide) (λK hK=>?_);go_simp;go_wp2_with (go_at_call 41;refine (C.out _ (Fl _).drew).mono ?_;rintro e w' ⟨rfl,rfl⟩);refine hK.out _ _ (HSS.out _ ((Fe wr).alloc _).drew) (λhSr4_11=>?_);clear hK K;try simp only[Act.put,Sa,Sb1,Sc,hlt3,heq3,hgd,hgn])
    refine WL.go [(12,23),(13,24),(14,25),(15,26),(16,27),(17,28),(18,29),(19,30),(20,31),(21,32),(22,33),(23,34),(24,35),(25,36),(26,37),(27,38),(28,39),(29,40),(30,41),(31,42),(32,43),(33,44),(34,45),(35,46),(36,47),(37,48),(38,49),(39,50),(40,51),(41,52),(42,53),(43,54)] ?_;iterate 32 (first|(refine WL.tk (v:=undef) rfl rfl Kr (λ_ _ _ h=>h) (Or.inr ⟨Rf,rfl⟩) (by assumption) ?_;simp only[Act.put,Sa,Sb1,Sc,hlt3,heq3,hgd,hgn])|(refine WL.tk (v:=?_) rfl rfl Kr (λ_ _ _ h=>h) (Or.inl ⟨Rf,?_⟩) (by assumption) ?_;rotate_left;(focus (intro w hSw;(try obtain⟨s0,s1⟩:=hSw);go_simp;(try with_reducible rfl)));simp only[Act.put,Sa,Sb1,Sc,hlt3,heq3,hgd,hgn]))
    refine WZ.last rfl Kr Kr (λK hK=>?_);go_simp;refine hK.out _ _ ?_;clear hK K
    )
   all_goals go_wp2_with fail
   all_goals (first|go_ret|go_ret2|skip)
   ·exact⟨Zh (HB.out rfl).symm,HR.out.1.drew⟩
   ·exact⟨Zh (HB.out rfl).symm,(HR.out.1.alloc _).drew⟩
   ·go_roundg (xs.length-(i+1))
    case measure=>omega
    case rel=>exact⟨i+1,by go_num,Om,Om,(HR.out.1.alloc _).drew,HK.out (by rw[HI0.out];rfl)⟩
   ·exact⟨Zh (HB.out (by rw[beq_eq_false_iff_ne.2 (Nat.ne_of_gt HI0.out)];rfl)).symm,(HR.out.1.alloc _).drew⟩
   ·exact⟨Zh (HB.out (by rw[beq_eq_false_iff_ne.2 (Nat.ne_of_gt HI0.out)];rfl)).symm,(HR.out.1.alloc _).drew⟩
   ·go_roundg (xs.length-(i+1))
    case measure=>omega
    case rel=>exact⟨i+1,by go_num,Om,Om,(HR.out.1.alloc _).drew,HK.out (by simp)⟩
  ·have hall:(List.range xs.length).all (Nu xs)=true:=by
    have:=HR.out.2;rw[(Om:i=xs.length)]at this;exact this
   by_cases h0:0<xs.length
   ·have h0z:(0:Int)<(xs.length:Int):=Om;have e0:Hid (true=He xs):=by show _=_;unfold He;rw[hall,decide_eq_true h0];rfl
    go_wp2_with fail
    first|go_ret|go_ret2
    exact⟨Zh e0.out,HR.out.1⟩
   ·have h0z:¬ (0:Int)<(xs.length:Int):=Om;have e0:Hid (false=He xs):=by show _=_;unfold He;rw[hall,decide_eq_false h0];rfl
    go_wp2_with fail
    first|go_ret|go_ret2
    exact⟨Zh e0.out,HR.out.1⟩
end
section
open Go.RowKit DT SS TR LT UC Go.Lib
theorem Zij:Pq Tryz.prog 9 1 16:=Qg Kr
theorem Cw(r:Nat):(Qr r=true/\((r<=32/\decide ((r:Int)<=32)=true)\/r=133\/r=160\/r=12288\/r=8232\/r=8233\/r=8239\/r=8287\/r=5760\/r=65533\/(8192<=r/\r<=8203/\¬ r<=32/\r≠133/\r≠160/\r≠12288)))\/(Qr r=false/\¬ r<=32/\r≠133/\r≠160/\r≠12288/\(¬ 8192<=r\/(8192<=r/\¬ r<=8203))/\r≠8232/\r≠8233/\r≠8239/\r≠8287/\r≠5760/\r≠65533):=by
 cases h:Qr r with
 | true =>
  left;refine⟨rfl,?_⟩;simp only[Qr,Bool.or_eq_true,decide_eq_true_eq,beq_iff_eq,Bool.and_eq_true]at h;rw[decide_eq_true_eq];omega
 | false =>
  right;refine⟨rfl,?_⟩;simp only[Qr,Bool.or_eq_false_iff,decide_eq_false_iff_not,beq_eq_false_iff_ne,Bool.and_eq_false_iff]at h;omega
theorem I9(w:World)(O:Nat->Prop)(A:Option Addr)(c:Nat)(us:List GRec)(h:tRec.At w O A us)(hs:∀ u∈us,u.text.size<=2147483647)(hl:us.length<=2147483647) :
  Calls Tryz.prog 28 #[.slice A us.length c] w λe w'=>e=.returned (.bool (ruB us))/\Zf w w':=by
 obtain⟨n,hn⟩:∃ n,n=us.length:=⟨_,rfl⟩;rw[<- hn]at hl⊢;have HU:=Hd (Ai1 h (Ai1 hs hn));clear h hs hn;go_enter Tryz.func28,Tryz.ntmps28
 go_wp2_with fail
 go_loopg [3,10] n (λg1 v3 v10 wr=>∃ (i:Nat) (u:Value),v3=u/\v10=.int .i64 (i:Int)/\i<=n/\n<=i+g1/\Hid (RowK Ty.str 9 u ((us.take i).map GRec.text) w.heap.size wr/\Zf w wr/\(us.take i).all No=true))
 case atStart=>exact⟨0,_,rfl,rfl,Om,Om,RowK.nil _,Fl _,rfl⟩
 case round =>
  obtain⟨i,u,rfl,rfl,hi,hg,HR⟩:=hrel;by_cases hlt:i<n
  ·have hlz:(i:Int)<(n:Int):=Om;have hz0:(0:Int)<=(i:Int):=Om;have hil:i<us.length:=by rw[<- HU.out.2.2];exact hlt
   obtain⟨b,o,p,q,rfl,_,hbl,⟨Ap,cp,ep,_,_,_⟩,⟨Aq,cq,eq,_,_,_⟩,hs1,hs2,e0,e1,e2,e3⟩:=Eu HU.out.1 i hil;cases ep;cases eq;have q0:=HR.out.2.1.cell e0 id;have q1:=HR.out.2.1.cell e1 id;have q2:=HR.out.2.1.cell e2 id;have q3:=HR.out.2.1.cell e3 id;have HB:Hid (No us[i]=false->ruB us=false):=λe=>by unfold ruB;rw[Y5 No _ _ hil e];rfl
   have HK:Hid (No us[i]=true->(us.take (i+1)).all No=true/\us.take (i+1)=us.take i++[us[i]]):=λe=>⟨Ys No _ _ hil HR.out.2.2 e,List.take_succ_eq_append_getElem hil⟩
   have hsz:=HU.out.2.1 _ (List.getElem_mem hil);clear e0 e1 e2 e3;generalize us[i]=x at *;obtain⟨ANS,hANS⟩:∃ A,A=(Zd x.text).all λc=>!Qr (Xa c):=⟨_,rfl⟩
   have hk:No x=(ANS&&(decide (1<=x.tokens.length)&&decide (x.tokens.length=x.yomi.length))):=by rw[hANS];rfl
   have HANS:=Hd hANS;rw[hk]at HB HK;have HL:=Hd HR.out.1.low;clear hANS hk hil;go_upto_region 5 with fail
   obtain⟨rb,hrb⟩:∃ rb,rb=wr.heap.size:=⟨_,rfl⟩;have hbx:=alloc_at wr (.cells #[.string x.text,.slice Ap x.tokens.length cp,.slice Aq x.yomi.length cq,.string x.pos] 70);have XA:Zf wr (wr.alloc (.cells #[.string x.text,.slice Ap x.tokens.length cp,.slice Aq x.yomi.length cq,.string x.pos] 70)):=(Fl _).alloc _;rw[<- hrb]at hbx⊢;have HXA:=Hd (Ai1 XA hrb);clear XA q0 q1 q2 q3 hrb;generalize wr.alloc _=wa at *;have b0:=cell_of hbx 0 (.string x.text) rfl;have HBX:=Hd hbx;clear hbx;go_wp2_with fail
   obtain⟨ib,hib⟩:∃ b,b=wa.heap.size:=⟨_,rfl⟩;rw[<- hib];have HIB:=Hd hib;clear hib b0
   go_loopg [] x.text.size (λg2 wc=>∃ pos:Nat,Hid (wc.heap[ib]?=some (.stringIter x.text pos))/\x.text.size<=pos+g2/\Hid (Zf wa wc)/\Hid ((Xc (x.text.data.toList.drop pos)).all (λc=>!Qr (Xa c))=ANS))
   case atStart=>exact⟨0,by rw[HIB.out];exact World.iter_heap wa x.text 0,Om,(Fl _).alloc _,HANS.symm⟩
   case round =>
    obtain⟨pos,HI,hgp,HX,HA⟩:=hrel;by_cases hp:pos<x.text.size
    ·have hnx:=λty=>Pb (P:=Tryz.prog) HI.out ty hp
     have hszl:x.text.data.toList.length=x.text.size:=by rw[Array.length_toList];rfl
     have hne:x.text.data.toList.drop pos≠[]:=by
      intro e;have:=congrArg List.length e;rw[List.length_drop,hszl]at this;simp at this;omega
     have hch:=chunk_step _ hne;have hru:=Pw hne;rw[decodeL_drop,List.drop_drop]at hch;rw[decodeL_drop]at hru;have hA:=HA.out;rw[hch,List.all_cons,hru]at hA;have hwd:=Lib.width_pos x.text pos;have hrl:=Lib.rune_le x.text pos;have XN:Zf wa (Wc wr ib x.text (pos+(Utf8.decode x.text pos).2)):=HX.out.trans (Th wr ib x.text _) (λj hj e=>by have:=HIB.out;omega);have IN:=Pi (pos+(Utf8.decode x.text pos).2) HI.out;clear hch hru hne hszl;generalize Utf8.decode x.text pos=dp at hnx hA hwd hrl XN IN;obtain⟨r,wd⟩:=dp;simp only at hnx hA hwd hrl XN IN;have HN:=Hd (Ai1 hA (Ai1 XN IN));clear hA XN IN;rcases Cw r with ⟨hw,hcs⟩|⟨hw,h0,h1,h2,h3,h45,h6,h7,h8,h9,h10,h11⟩
     ·have HE:Hid (false=ruB us/\Zf w (Wc wr ib x.text (pos+wd))):=⟨(HB.out (by rw[<- HN.1,hw];rfl)).symm,(HR.out.2.1.trans HXA.out.1 (λ_ _ e=>e)).trans HN.2.1 (λ_ _ e=>e)⟩;clear hw HN hwd;rcases hcs with ⟨h0,h0'⟩|rfl|rfl|rfl|rfl|rfl|rfl|rfl|rfl|rfl|⟨h4,h5,g0,g1,g2,g3⟩
      all_goals (go_wp2_with fail)
      all_goals (first|go_ret|go_ret2)
      all_goals exact⟨Zh HE.out.1,HE.out.2⟩
     ·have HW:=Hd hw;have k0:¬ (r:Int)<=32:=Om;have k1:=beq_eq_false_iff_ne.2 ((Om:(r:Int)≠133));have k2:=beq_eq_false_iff_ne.2 ((Om:(r:Int)≠160));have k3:=beq_eq_false_iff_ne.2 ((Om:(r:Int)≠12288));have k6:=beq_eq_false_iff_ne.2 ((Om:(r:Int)≠8232));have k7:=beq_eq_false_iff_ne.2 ((Om:(r:Int)≠8233));have k8:=beq_eq_false_iff_ne.2 ((Om:(r:Int)≠8239));have k9:=beq_eq_false_iff_ne.2 ((Om:(r:Int)≠8287));have k10:=beq_eq_false_iff_ne.2 ((Om:(r:Int)≠5760));have k11:=beq_eq_false_iff_ne.2 ((Om:(r:Int)≠65533));clear hw h0 h1 h2 h3 h6 h7 h8 h9 h10 h11;rcases h45 with h4|⟨h4,h5⟩
      all_goals (go_wp2_with fail)
      all_goals (go_roundg (x.text.size-(pos+wd)))
      all_goals (first|omega|exact⟨pos+wd,HN.2.2,Om,HN.2.1,by
       have:=HN.1;rw[HW.out,Bool.not_false,Bool.true_and]at this
       exact this⟩)
    ·have hnx:=λty=>Vz (P:=Tryz.prog) HI.out ty hp
     have hszl:x.text.data.toList.length=x.text.size:=by rw[Array.length_toList];rfl
     have EA:Hid (ANS=true):=by
      show _=_;have:=HA.out;rw[List.drop_eq_nil_of_le Om]at this;exact this.symm
     have hb2:=HX.out.heap HBX.out id;have b0:=cell_of hb2 0 (.string x.text) rfl;have b1:=cell_of hb2 1 (.slice Ap x.tokens.length cp) rfl;have b2:=cell_of hb2 2 (.slice Aq x.yomi.length cq) rfl;have lb:rb<wr.heap.size:=lt_of_cell b0;have HXX:=Hd (HXA.out.1.trans HX.out (λ_ _ e=>e));clear hszl hb2;by_cases t1:1<=x.tokens.length
     ·by_cases t2:x.tokens.length=x.yomi.length
      ·have t1z:¬ (x.tokens.length:Int)<1:=Om;have t2z:((x.tokens.length:Int) != (x.yomi.length:Int))=false:=bne_eq_false_iff_eq.2 Om;have HK2:=Hd (HK.out (by rw[EA.out,decide_eq_true t1,decide_eq_true t2];rfl));have HTT:=Hd t2;clear t2
       go_wp2_with (first
        | (at_builtin;refine RowK.lst (v:=u3) rfl _ _ 34 rfl x.text [.string x.text] 16 ⟨wr.heap.size,0,none⟩ Tryz.underlying34 Zij (by decide) Om rfl rfl (HR.out.1.ext (HXX.out.alloc _)) (by rw[List.length_map,List.length_take];omega) (by have:=(HR.out.2.1.trans HXX.out (λ_ _ e=>e)).size;simp;omega) (Z0 _ _) ⟨rfl,hs1⟩ ?_;intro v' w6 hR6 hf6 ha6;have H6:=Hd (Ai1 hR6 hf6);clear hR6 hf6 ha6)
        | fail)
       go_roundg (n-(i+1))
       case measure=>omega
       case rel=>exact⟨i+1,v',rfl,by go_num,Om,Om,by rw[HK2.out.2,List.map_append];exact H6.out.1,((HR.out.2.1.trans HXX.out (λ_ _ e=>e)).alloc _).trans H6.out.2 (λj hj e=>by have:=(HL.out j e).1;omega),HK2.out.1⟩
      ·have HE:Hid (false=ruB us/\Zf w wr):=⟨(HB.out (by rw[decide_eq_false t2,Bool.and_false,Bool.and_false])).symm,HR.out.2.1.trans HXX.out (λ_ _ e=>e)⟩;have t1z:¬ (x.tokens.length:Int)<1:=Om;have t2z:((x.tokens.length:Int) != (x.yomi.length:Int))=true:=bne_iff_ne.2 Om;go_wp2_with fail
       first|go_ret|go_ret2
       exact⟨Zh HE.out.1,HE.out.2⟩
     ·have HE:Hid (false=ruB us/\Zf w wr):=⟨(HB.out (by rw[decide_eq_false t1,Bool.false_and,Bool.and_false])).symm,HR.out.2.1.trans HXX.out (λ_ _ e=>e)⟩;have t1z:(x.tokens.length:Int)<1:=Om;go_wp2_with fail
      first|go_ret|go_ret2
      exact⟨Zh HE.out.1,HE.out.2⟩
  ·obtain rfl:i=n:=Om
   have htk:us.take i=us:=by rw[HU.out.2.2];exact List.take_length
   have hsl:=HR.out.1.slice;rw[htk]at hsl;have hall:=HR.out.2.2;rw[htk]at hall;obtain⟨A3,c3,e3,_,_,hat⟩:=hsl;simp only[List.cons.injEq,and_true]at e3;rw[List.length_map,<- HU.out.2.2]at e3;have CO:=Hd (Zab wr _ A3 c3 (us.map GRec.text) hat (λs hs=>by obtain⟨u,hu,rfl⟩:=List.mem_map.1 hs;exact HU.out.2.1 u hu));rw[List.length_map,<- HU.out.2.2]at CO;have HE:Hid (He (us.map GRec.text)=ruB us):=by show _=_;unfold ruB;rw[hall,Bool.true_and]
   clear hat hall;subst e3
   go_wp2_with (first
    | (go_at_call 85;refine CO.out.mono ?_;rintro e w2 ⟨rfl,hx⟩;have HX:=Hd hx;clear hx)
    | fail)
   first|go_ret|go_ret2
   exact⟨Zh HE.out,HR.out.2.1.trans HX.out (λ_ _ e=>e)⟩
theorem Zi2(w:World)(O Oi:Nat->Prop)(d:Zg)(cs:List Value)(A:Option Addr)(c:Nat)(xs:List ByteArray)(h:tDict.R w O d cs)(hf:Yl d=true)(hT:U8 w)(hx:Ty.str.At w Oi A xs) :
  Calls Tryz.prog 9 #[.agg cs.toArray,.slice A xs.length c] w λe w'=>e=.returned (.bool (Sq d xs))/\Zf w w':=by
 refine Zi1 w O Oi d cs A c xs h hf hT hx (λW B k hat=>I9 W O B k d.user hat (λu hu=>?_) ?_)
 ·have hf:=hf;unfold Yl at hf;simp only[Bool.and_eq_true]at hf;have:=List.all_eq_true.1 hf.2.2.2.2.2.2.2.2 u hu;unfold Wh at this;rw[Bool.and_eq_true]at this;simpa [Yi] using this.1
 ·have hf:=hf;unfold Yl at hf;simp only[Bool.and_eq_true]at hf;simpa [Yi] using hf.2.2.2.2.2.2.2.1
end
section
open Go.RowKit DT SS TR LT
def usL(d:Zg):List GRec:=if d.hasUser then Jd d else []
def I1(d:Zg)(us:List GRec)(x:Nd):Prop :=
 x.cls<=3/\(x.cls=1->∃ i:Nat,x.id=i/\i<(Zu d).length)/\(x.cls=2->∃ i:Nat,x.id=i/\i<(Ze d).length)/\(x.cls=3->∃ i:Nat,x.id=i/\i<us.length)
theorem Ip{d:Zg}{us:List GRec}{x:Nd}(h:x.cls=0):I1 d us x :=
 ⟨Om,λe=>absurd (h.symm.trans e) (by decide),λe=>absurd (h.symm.trans e) (by decide),λe=>absurd (h.symm.trans e) (by decide)⟩
theorem Zla{d:Zg}(hr:Zm d=true)(hd:I4 d)(uk:Option (List ByteArray))(us:List GRec)(hu:∀ ks,uk=some ks->Yz ks/\ks.length=us.length){s:ByteArray}(hs:Rd s):∀ x∈lat (Z2 d uk) s,I1 d us x:=by
 intro x hx;unfold lat V2 at hx;rcases List.mem_cons.1 hx with rfl|hx
 ·exact Ip rfl
 rcases List.mem_cons.1 hx with rfl|hx
 ·exact Ip rfl
 obtain⟨k,hk,hx⟩:=List.mem_flatMap.1 hx;have hk:k<(Zd s).length:=by rw[<- Sm];exact List.mem_range.1 hk
 have known:∀ x∈Vf (Z2 d uk) s k (bp (Zd s) k),I1 d us x:=λx hx=>by
  obtain⟨y,hy,rfl⟩:=List.mem_map.1 hx;obtain⟨hi,_⟩:=Q3 (Py hr hd) hy;rw[List.length_map]at hi;exact⟨by show 1<=3;omega,λ_=>⟨y.1,rfl,hi⟩,λe=>absurd (show (1:Nat)=2 from e) (by decide),λe=>absurd (show (1:Nat)=3 from e) (by decide)⟩
 have user:∀ x∈Uk (Z2 d uk) s k (bp (Zd s) k),I1 d us x:=λx hx=>by
  cases uk with
  | none=>cases hx
  | some ks =>
   obtain⟨y,hy,rfl⟩:=List.mem_map.1 hx;obtain⟨hi,_⟩:=Q3 (hu ks rfl).1 hy;rw[(hu ks rfl).2]at hi;exact⟨by show 3<=3;omega,λe=>absurd (show (3:Nat)=1 from e) (by decide),λe=>absurd (show (3:Nat)=2 from e) (by decide),λ_=>⟨y.1,rfl,hi⟩⟩
 have unk:∀ x∈Ok (Z2 d uk) s (Zd s) k,I1 d us x:=λx hx=>by
  have hm:=(Nw hr uk _ (It hr uk (Xa ((Zd s).getD k [])))).2.2;obtain⟨i,hi,hx⟩:=List.mem_flatMap.1 hx;have hi:=List.mem_range.1 hi
  have key:∀ p l,I1 d us (Xi s k p 2 ((Z2 d uk).unk.getD ((Z2 d uk).idx ((Z2 d uk).cat (Xa ((Zd s).getD k [])))+i) default) ((Z2 d uk).idx ((Z2 d uk).cat (Xa ((Zd s).getD k [])))+i) l):=λp l =>
   ⟨by show 2<=3;omega,λe=>absurd (show (2:Nat)=1 from e) (by decide),λ_=>⟨_,rfl,Om⟩,λe=>absurd (show (2:Nat)=3 from e) (by decide)⟩
  rcases List.mem_append.1 hx with hx|hx
  ·split at hx
   ·rw[List.mem_singleton.1 hx];exact key _ _
   ·cases hx
  ·rw[List.mem_singleton.1 hx];exact key _ _
 unfold Xl at hx
 split at hx
 ·rcases List.mem_append.1 hx with hx|hx
  ·exact known x hx
  ·split at hx
   ·exact unk x hx
   ·cases hx
 ·exact user x hx
structure Znr(d:Zg)(us:List GRec)(x:Nd):Prop where
 cls:I1 d us x
 id:-1<=x.id/\x.id<=1000000
 pos:x.pos<=2000000
 start:x.start<=2000000
 size:x.surf.size<=1000
theorem Zh2{d:Zg}(hr:Zm d=true)(hd:I4 d)(uk:Option (List ByteArray))(us:List GRec)(hu:∀ ks,uk=some ks->Yz ks/\ks.length=us.length){s:ByteArray}(hs:Rd s)(hsz:s.size<=300)(mode:Int):∀ y∈M8 (Z2 d uk) mode s,Znr d us y:=by
 intro y hy;obtain⟨h1,h2⟩:=Zdv hr hd uk (λks e=>(hu ks e).1) hs hsz mode y hy;obtain⟨m,hm,hy⟩:=List.mem_flatMap.1 hy;have hlo:=Nz hr hd uk (λks e=>(hu ks e).1) hs hsz
 have t1:1<(lat (Z2 d uk) s).length:=by
  have:lat (Z2 d uk) s=Qw::Od s::(List.range (Lib.runeCount s)).flatMap (Xl (Z2 d uk) s (Zd s)):=rfl;rw[this,List.length_cons,List.length_cons];omega
 have hml:=Ps (Ma (Z2 d uk) mode _ hlo.2 _) _ _ t1 m hm;have e:(lat (Z2 d uk) s).getD m default=(lat (Z2 d uk) s)[m]:=by rw[List.getD_eq_getElem?_getD,Ge hml];rfl
 rw[e]at hy;have hx:=hlo.1 _ (List.getElem_mem hml);have hc:=Zla hr hd uk us hu hs _ (List.getElem_mem hml);generalize (lat (Z2 d uk) s)[m]=x at *;unfold Y8 at hy
 split at hy
 ·rw[List.mem_singleton.1 hy]at h1 h2⊢;exact⟨hc,hx.id,by have:=hx.pos;omega,h1,h2⟩
 ·rw[List.mem_reverse]at hy;obtain⟨i,hi,rfl⟩:=List.mem_map.1 hy;refine⟨Ip rfl,hx.id,?_,h1,h2⟩;show x.pos+bp (Zd x.surf) i<=2000000;have:=Mi x.surf i;have:=hx.size;have:=hx.pos;omega
theorem Fc(om:Bool)(l:List Nd):∀ i,i<=l.length->∀ t∈Vi om l i,t.index<(Vi om l i).length/\∃ x∈l,t.id=x.id/\t.cls=x.cls/\t.pos=x.pos/\t.start=x.start/\t.fin=x.start+Lib.runeCount x.surf/\(t.surf=x.surf\/t.surf.size=3)
 | 0,_,t,ht=>by cases ht
 | i+1,hi,t,ht=>by
  have ih:=Fc om l i Om;unfold Vi Qp at ht⊢
  split at ht
  ·next h=>rw[if_pos h];exact ih t ht
  ·next h =>
   rw[if_neg h];rcases List.mem_append.1 ht with ht|ht
   ·obtain⟨a,b⟩:=ih t ht;refine⟨?_,b⟩;rw[List.length_append,List.length_singleton];omega
   ·have e:=List.mem_singleton.1 ht;subst e;refine⟨?_,l.getD i default,?_,rfl,rfl,rfl,rfl,rfl,?_⟩
    ·rw[List.length_append,List.length_singleton];exact Nat.lt_succ_self _
    ·rw[List.getD_eq_getElem?_getD,Ge ((Om:i<l.length))];exact List.getElem_mem ((Om:i<l.length))
    ·show (if _ then _ else _)=_\/(if _ then _ else _:ByteArray).size=3
     split
     ·right;split<;>rfl
     ·exact .inl rfl
theorem Zkd{d:Zg}(hr:Zm d=true)(hd:I4 d)(uk:Option (List ByteArray))(us:List GRec)(hu:∀ ks,uk=some ks->Yz ks/\ks.length=us.length){s:ByteArray}(hs:Rd s)(hsz:s.size<=300)(om:Bool)(mode:Int):∀ t∈Vn (Z2 d uk) om mode s,V8 d us t:=by
 intro t ht;have hl:=Jh hr hd uk (λks e=>(hu ks e).1) hs hsz om mode;obtain⟨h1,x,hx,e1,e2,e3,e4,e5,e6⟩:=Fc om _ _ (by rw[List.length_reverse];exact Nl _) t ht;have h:=Zh2 hr hd uk us hu hs hsz mode x (List.mem_reverse.1 hx);have hrc:=Lib.runeCount_le x.surf;obtain⟨c1,c2,c3,c4⟩:=h.cls;refine⟨by rw[e2];exact c1,by rw[e1,e2];exact c2,by rw[e1,e2];exact c3,by rw[e1,e2];exact c4,?_⟩;have hp:=h.pos;have hst:=h.start;have hsz:=h.size;refine⟨by unfold Vn at hl;omega,by rw[e1];exact h.id,Om,Om,Om,?_⟩;rcases e6 with e|e
 ·rw[e];exact hsz
 ·omega
theorem Hu{s:ByteArray}:∀ {l:List ByteArray},s∈l->s.size+1<=total l
 | x::l,h=>by
  show s.size+1<=x.size+1+total l;rcases List.mem_cons.1 h with rfl|h
  ·omega
  ·have:=Hu h;omega
theorem Ji{d:Zg}(h:We d=true):(∀ u∈d.words,(u.pos.length<=20/\u.contents.length<=20)/\(∀ s∈u.pos,s.size<=4000))/\(∀ u∈d.unknown,u.contents.length<=20)/\d.words.length<=60/\d.unknown.length<=30/\d.meta0.length<=20/\d.unkMeta.length<=20/\d.chars.length<=30/\d.user.length<=30/\total (Uo d)<=4000:=by
 unfold We at h;simp only[Bool.and_eq_true,List.all_eq_true,decide_eq_true_eq]at h;obtain⟨h1,h2,_,h4,h5,h6,h7,h8,_,h10,h11⟩:=h;refine⟨λu hu=>?_,λu hu=>?_,h4,h5,h6,h7,h8,h10,?_⟩
 ·have:=h1 u hu;unfold Wo Sh at this;simp only[Bool.and_eq_true,decide_eq_true_eq,List.map_cons,List.map_nil,List.sum_cons,List.sum_nil]at this;refine⟨⟨this.1,this.2.1⟩,λs hs=>?_⟩;have h3:=Hu hs;omega
 ·have:=h2 u hu;unfold Si at this;simp only[Bool.and_eq_true,decide_eq_true_eq]at this;exact this.1
 ·unfold Sh at h11;simpa using h11
theorem Zd9{d:Zg}{s:ByteArray}(h:Sq d [s]=true)(hf:Yl d=true):(Rd s/\s.size<=300)/\Zm d=true/\I4 d/\Dy d/\usL d=(if d.hasUser then d.user else []):=by
 unfold Sq at h;simp only[Bool.and_eq_true,List.all_cons,List.all_nil,Bool.and_true,Bool.or_eq_true,Bool.not_eq_true']at h;obtain⟨h1,h2,h3,h4,h5⟩:=h;obtain⟨k1,k2,k3,k4,k5,k6,k7,k8,k9⟩:=Ji h4
 have hsum:R8 (d.words.map GWord.surface)+R8 (d.user.map GRec.text)<=4000:=by
  have e:total (Uo d)=R8 (d.words.map GWord.surface)+R8 (d.user.map GRec.text):=by
   unfold total Uo R8;rw[List.map_append,List.sum_append,List.map_map,List.map_map];try rfl
  omega
 unfold Yl at hf;simp only[Bool.and_eq_true,List.all_eq_true]at hf;have hrec:=hf.2.2.2.2.2.2.2.2
 have hus:d.hasUser=true->Zde d.user:=λhu=>by
  rcases h3 with q|q
  ·rw[hu]at q;cases q
  ·refine Zj8 q (λu hu=>?_) Om Om;have:=hrec u hu;unfold Wh at this;rw[Bool.and_eq_true]at this;simpa [Yi] using this.1
 have hid:d.hasUser=true->Jd d=d.user:=λhu=>Zhe Vd Hz d.user (by
  have:=(hus hu).asc;rw[List.pairwise_map]at this
  exact this)
 refine⟨(Zkw s).1 h1,h5,⟨Om,λu hu=>?_,Om,λu hu=>?_,Om,Om,Om,Om⟩,λhu=>⟨by rw[hid hu];exact hus hu,λu hm=>?_⟩,?_⟩
 ·have:=(k1 u hu).1;omega
 ·have:=k2 u hu;omega
 ·have:=hrec u hm;unfold Wh Xj at this;simp only[Bool.and_eq_true,Yi,decide_eq_true_eq]at this;omega
 ·unfold usL
  split
  ·next hu=>exact hid hu
  ·rfl
theorem Zld{d:Zg}(h:Dy d):∀ ks,Qs d=some ks->Yz ks/\ks.length=(usL d).length:=by
 intro ks e;refine⟨Zbw h ks e,?_⟩;unfold Qs at e;unfold usL
 split at e
 ·next hu=>cases e;rw[if_pos hu,List.length_map]
 ·cases e
theorem Zke{d:Zg}{s:ByteArray}(h:Sq d [s]=true)(hf:Yl d=true)(hb:∀ u∈d.user,total u.tokens<=1048576/\total u.yomi<=1048576){om:Bool}{mode:Int}{W w':World}{v:Value}{kd H U ku:Nat}(ha:Zjz d (Qs d) (xOf d) om mode s W v kd H U ku w'):Wv d (usL d) kd (Zfk (Qs d) ku) H U w':=by
 obtain⟨_,hr,hd,hu,e⟩:=Zd9 h hf
 have hs:We d=true:=by
  unfold Sq at h;simp only[Bool.and_eq_true]at h;exact h.2.2.2.1
 obtain⟨k1,k2,k3,_⟩:=Ji hs;have hm:=Ou hr;refine⟨ha.2.1,λhne=>?_,by rw[Co];omega,⟨λu hu=>?_,λu hu=>?_,λu hm=>?_⟩,λm h=>?_,λm h=>?_⟩
 ·have hh:d.hasUser=true:=by
   unfold usL at hne
   split at hne
   ·assumption
   ·exact absurd rfl hne
  have hx:=ha.2.2.2.1;unfold xOf at hx;rw[hh]at hx;refine⟨ku,?_,?_⟩
  ·unfold Qs;rw[hh];rfl
  ·unfold usL;rw[hh];exact hx
 ·have hu:=(Zy Vu d.words).mem_iff.1 hu;obtain⟨⟨a,b⟩,c⟩:=k1 u hu;exact⟨Om,Om,λs hs=>by have:=c s hs;omega⟩
 ·have hu:=(Zy P8 d.unknown).mem_iff.1 hu;have:=k2 u hu;omega
 ·rw[e]at hm
  split at hm
  ·next hh =>
   have h1:=(hu hh).1
   have hid:Jd d=d.user:=by
    unfold usL at e;rw[hh]at e;exact e
   rw[hid]at h1;exact⟨(h1.toks u hm).1,(h1.toks u hm).2,hb u hm⟩
  ·cases hm
 ·obtain⟨x,hx,rfl⟩:=List.mem_map.1 h;exact hm x (List.mem_append_left _ hx)
 ·obtain⟨x,hx,rfl⟩:=List.mem_map.1 h;exact hm x (List.mem_append_right _ hx)
end
section
open Go.RowKit DT SS TR LT
theorem RowK.elem{α:Type}{d:Ty α}{T:TypeId}{A:Option Addr}{n c:Nat}{xs:List α}{B:Nat}{w:World}(h:RowK d T (.slice A n c) xs B w)(i:Nat)(hi:i<xs.length):∃ b o cs,A=some ⟨b,o,none⟩/\b<w.heap.size/\d.R w (λ_=>True) xs[i] cs/\∀ j (hj:j<cs.length),w.cell? ⟨b,o+i*d.sz+j,none⟩=some cs[j]:=by
 obtain⟨A',c',e,_,_,_,h1⟩:=h.slice;simp only[List.cons.injEq,Value.slice.injEq,and_true]at e;obtain⟨rfl,rfl,rfl⟩:=e;rcases h1 with rfl|⟨b,o,rfl,_,hl,hc⟩
 ·simp at hi
 ·obtain⟨cs,hr,hcs⟩:=hc i hi;exact⟨b,o,cs,rfl,hl,d.mono (λ_ _ _=>trivial) hr,hcs⟩
theorem Pa(W:World)(s:ByteArray)(hs:s.size<=9223372036854775807):Ty.str.At (W.alloc (.cells #[.string s] 9)) (λ_=>True) (some ⟨W.heap.size,0,none⟩) [s]:=by
 refine⟨by simp,.inr ⟨_,_,rfl,trivial,by rw[Za];omega,λi hi=>?_⟩⟩;have:i=0:=by simpa using hi
 subst this;refine⟨[.string s],⟨rfl,hs⟩,λj hj=>?_⟩;have:j=0:=by simpa using hj
 subst this;exact cell_of (alloc_at _ _) 0 _ rfl
end
end Go.Proofs.YtlfoalomaofejaaGreatDoor
