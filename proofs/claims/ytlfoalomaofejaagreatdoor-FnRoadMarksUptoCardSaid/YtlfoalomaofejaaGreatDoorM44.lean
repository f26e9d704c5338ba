/- laws.ordered (strictly): texts -/
import Derived.Test.YtlfoalomaofejaaGreatDoorM43
set_option linter.all false
set_option maxRecDepth 100000
set_option maxHeartbeats 4000000
namespace Go.Proofs.YtlfoalomaofejaaGreatDoor
section
open Go.RowKit DT SS TR LT
theorem Zhl(W h:World)(s:ByteArray)(G:s.size<=2147483647)(f:Zf (W.alloc (.cells #[.string s] 9)) h):Calls Tryz.prog 41 #[.slice (some ⟨W.heap.size,0,none⟩) 1 1] h λe w'=>e=.returned (.bool (Wk s))/\h=w':=by
 have B:=f.heap (alloc_at W (.cells #[.string s] 9)) id;have K:=Za W (.cells #[.string s] 9);have A:=f.size
 have:=Ea h (λ_=>True) (some ⟨W.heap.size,0,none⟩) 1 [s] (by
  refine⟨by simp,Or.inr ⟨W.heap.size,0,rfl,trivial,Om,?_⟩⟩;intro k I;have q:k=0:=by simpa using I
  subst q;refine⟨[.string s],⟨rfl,Nt G (by decide)⟩,?_⟩;intro j J;have z:j=0:=by simpa using J
  subst z
  exact cellAt B 0 _ rfl)
 have e:Nm [s]=Wk s:=by unfold Nm;simp
 rw[e]at this;exact this
theorem Zau(w:World)(O:Nat->Prop)(A:Option Addr)(c:Nat)(xs:List ByteArray)(h:Ty.str.At w O A xs)(hs:∀ s∈xs,s.size<=2147483647) :
  Calls Tryz.prog 85 #[.slice A xs.length c,.bool true] w λe w'=>e=.returned (.bool (Hy xs))/\Zf w w':=by
 have mixed:Tryz.prog.follows .mixedOrders=true:=Kr
 have hm:=h.1;have HN:=Hd h;have HS:=Hd hs;clear h hs;go_enter Tryz.func85,Tryz.ntmps85
 go_wp2_with fail
 go_loopg [8] xs.length (λg1 v8 wr=>∃ (i:Nat),v8=.int .i64 (i:Int)/\i<=xs.length/\xs.length<=i+g1/\Hid (Zf w wr/\(List.range i).all (N9 xs)=true))
 case atStart=>exact⟨0,rfl,Om,Om,Fl _,rfl⟩
 case round =>
  obtain⟨i,rfl,hi,hg,M⟩:=hrel;by_cases Y:i<xs.length
  ·have au:(i:Int)<(xs.length:Int):=Om;have aq:(0:Int)<=(i:Int):=Om
   have HB:Hid (N9 xs i=false->Hy xs=false):=λe=>by
    unfold Hy;rw[Bool.and_eq_false_iff];left;rw[List.all_eq_false];exact⟨i,by simpa using Y,by simp[e]⟩
   have HK:Hid (N9 xs i=true->(List.range (i+1)).all (N9 xs)=true):=λe=>by
    show _=_;rw[List.range_succ,List.all_append,M.out.2];simp[e]
   obtain⟨b,o,rfl,_,az,e0,ar⟩:=Uk HN.out i Y;have aa:xs[i]?=some xs[i]:=Ge Y;have HM:=Hd (HS.out _ (List.getElem_mem Y));have hp:i-1<xs.length:=Om;obtain⟨b',o',eA,_,_,e1,_⟩:=Uk HN.out (i-1) hp;cases eA;have V:xs[i-1]?=some xs[i-1]:=Ge hp;have Z:N9 xs i=((decide (xs[i].size≠0)&&Wk xs[i])&&(i==0||(!Op.bytesLess xs[i].toList xs[i-1].toList && !(xs[i].toList==xs[i-1].toList)))):=by unfold N9;rw[aa,V]
   have ae:Hid (∀ W,Zf wr W->W.cell? ⟨b,o+i,none⟩=some (.string xs[i])/\W.cell? ⟨b,o+(i-1),none⟩=some (.string xs[i-1])):=λW f=>⟨(M.out.1.trans f (λ_ _ e=>e)).cell e0 id,(M.out.1.trans f (λ_ _ e=>e)).cell e1 id⟩
   have ay:(xs[i].toList==[]) = !decide (xs[i].size≠0):=by
    rw[ByteArray.toList_eq];have:xs[i].data.toList.length=xs[i].size:=by rw[Array.length_toList];rfl
    cases hl:xs[i].data.toList with
    | nil=>rw[hl]at this;simp at this;simp[<- this]
    | cons x l=>rw[hl]at this;simp at this;simp[<- this]
   have C:Hid (∀ W:World,Zf (wr.alloc (.cells #[.string xs[i]] 9)) W->Calls Tryz.prog 41 #[.slice (some ⟨wr.heap.size,0,none⟩) 1 1] W λe w'=>e=.returned (.bool (Wk xs[i]))/\W=w'):=λW f=>Zhl wr W _ HM.out f
   rw[Z]at HB HK;clear aa V Z HM e0 e1;generalize xs[i]=s at *;generalize xs[i-1]=p at *;generalize decide (s.size≠0)=ne at *;generalize Wk s=nz at *;obtain⟨bl,U⟩:∃ q,q=Op.bytesLess s.toList p.toList:=⟨_,rfl⟩;obtain⟨be,X⟩:∃ q,q=(s.toList==p.toList):=⟨_,rfl⟩;rw[<- U,<- X]at HB HK;have z:=U.symm;have G:=X.symm;clear U X;go_wp2_with fail
   have ao:(0:Int)<=((i-1:Nat):Int):=Om;have ap:((i-1:Nat):Int)<(xs.length:Int):=Om;obtain⟨gb,I⟩:∃ q,decide ((0:Int)<(i:Int))=q:=⟨_,rfl⟩;have J:decide (0<i)=gb:=by rw[<- I];exact decide_eq_decide.2 Om
   have ah:i=0->gb=false:=λe=>by rw[<- I];exact decide_eq_false Om
   have ab:0<i->gb=true:=λe=>by rw[<- I];exact decide_eq_true Om
   have al:(ne=false/\0<=i)\/(ne=true/\nz=false/\0<=i)\/(ne=true/\nz=true/\gb=false/\i=0)\/(ne=true/\nz=true/\bl=true/\gb=true/\0<i)\/(ne=true/\nz=true/\bl=false/\be=true/\gb=true/\0<i)\/(ne=true/\nz=true/\bl=false/\be=false/\gb=true/\0<i):=by
    rcases Nat.eq_zero_or_pos i with h|h<;>(first|(have g:=ah h;clear J;subst g)|(have g:=ab h;clear J;subst g))<;>cases ne<;>cases nz<;>cases bl<;>cases be<;>simp<;>omega
   have ag:Hid ((i=0->¬ (0:Int)<(i:Int))/\(0<i->(0:Int)<(i:Int)/\IntKind.i64.wrap ((i:Int)-1)=((i-1:Nat):Int))):=by
    refine⟨λe=>Om,λe=>⟨Om,?_⟩⟩;have:(i:Int)-1=((i-1:Nat):Int):=Om;rw[this];simp[IntKind.wrap,IntKind.min,IntKind.max,IntKind.signed,IntKind.bits];omega
   clear ah ab;rcases al with ⟨rfl,L⟩|⟨rfl,rfl,L⟩|⟨rfl,rfl,rfl,L⟩|⟨rfl,rfl,rfl,rfl,L⟩|⟨rfl,rfl,rfl,rfl,rfl,L⟩|⟨rfl,rfl,rfl,rfl,rfl,L⟩
   all_goals (first|have ax:=ag.out.1 L|skip)
   all_goals (first|have ak:=ag.out.2 L|skip)
   all_goals (first|obtain⟨aw,av⟩:=ak|skip)
   all_goals (have af:=Hd L;clear L)
   all_goals (
    refine Ye 44 45 #[false,false,false,false,false,false,false,false,false,false,false,false,false,false,false,false,false,false,false,false,false,false,false,false,false,false,false,false,false,false,false,false,false,false,false,false,false,false,false,false,false,false,false,false,false] (λW=>W.cell? ⟨b,o+i,none⟩=some (.string s)/\W.cell? ⟨b,o+(i-1),none⟩=some (.string p)) mixed rfl rfl (ae.out wr.drew ((Fl wr).drew)) (λhS=>?_);refine WL.go [(0,11),(1,12),(2,13),(3,14),(4,15),(5,16),(6,17),(7,18),(8,19),(9,20)] ?_;iterate 10 (first|(refine WL.tk (v:=undef) rfl rfl Kr (λ_ _ _ h=>h) (Or.inr ⟨Rf,rfl⟩) (by assumption) ?_;simp only[Act.put,Sa,Sb1,Sc,z,G,I,J])|(refine WL.tk (v:=?_) rfl rfl Kr (λ_ _ _ h=>h) (Or.inl ⟨Rf,?_⟩) (by assumption) ?_;rotate_left;(focus (intro w ad;(try obtain⟨s0,s1⟩:=ad);go_simp;(try with_reducible rfl)));simp only[Act.put,Sa,Sb1,Sc,z,G,I,J]))
    first
    | (refine WZ.take (i:=10) (dst:=some 21) (v:=undef) rfl rfl Kr (λ_ _ _ h=>h) (Or.inr ⟨Rf,rfl⟩) (by assumption) ?_;simp only[Act.put,Sa,Sb1,Sc,z,G,I,J])
    | (refine WZ.one (i:=10) rfl Kr (by decide) (λK hK=>?_);go_simp;refine hK.out _ _ (ae.out _ ((Fe wr).alloc _).drew) (λaj=>?_);clear hK K;try simp only[Act.put,Sa,Sb1,Sc,z,G,I,J])
    first
    | (refine WZ.take (i:=11) (dst:=some 22) (v:=undef) rfl rfl Kr (λ_ _ _ h=>h) (Or.inr ⟨Rf,rfl⟩) (by assumption) ?_;simp only[Act.put,Sa,Sb1,Sc,z,G,I,J])
    | (refine WZ.one (i:=11) rfl Kr (by decide) (λK hK=>?_);go_simp;go_wp2_with (go_at_call 41;refine (C.out _ (Fl _).drew).mono ?_;rintro e w' ⟨rfl,rfl⟩);refine hK.out _ _ (ae.out _ ((Fe wr).alloc _).drew) (λai=>?_);clear hK K;try simp only[Act.put,Sa,Sb1,Sc,z,G,I,J])
    refine WL.go [(12,23),(13,24),(14,25),(15,26),(16,27),(17,28),(18,29),(19,30),(20,31),(21,32),(22,33),(23,34),(24,35),(25,36),(26,37),(27,38),(28,39),(29,40),(30,41),(31,42),(32,43),(33,44),(34,45),(35,46),(36,47),(37,48),(38,49),(39,50),(40,51),(41,52),(42,53),(43,54)] ?_;iterate 32 (first|(refine WL.tk (v:=undef) rfl rfl Kr (λ_ _ _ h=>h) (Or.inr ⟨Rf,rfl⟩) (by assumption) ?_;simp only[Act.put,Sa,Sb1,Sc,z,G,I,J])|(refine WL.tk (v:=?_) rfl rfl Kr (λ_ _ _ h=>h) (Or.inl ⟨Rf,?_⟩) (by assumption) ?_;rotate_left;(focus (intro w ad;(try obtain⟨s0,s1⟩:=ad);go_simp;(try with_reducible rfl)));simp only[Act.put,Sa,Sb1,Sc,z,G,I,J]))
    refine WZ.last rfl Kr Kr (λK hK=>?_);go_simp;refine hK.out _ _ ?_;clear hK K
    )
   all_goals go_wp2_with fail
   all_goals (first|go_ret|go_ret2|skip)
   ·exact⟨Zh (HB.out rfl).symm,M.out.1.drew⟩
   ·exact⟨Zh (HB.out rfl).symm,(M.out.1.alloc _).drew⟩
   ·go_roundg (xs.length-(i+1))
    case measure=>omega
    case rel=>exact⟨i+1,by go_num,Om,Om,(M.out.1.alloc _).drew,HK.out (by rw[af.out];rfl)⟩
   ·exact⟨Zh (HB.out (by rw[beq_eq_false_iff_ne.2 (Nat.ne_of_gt af.out)];rfl)).symm,(M.out.1.alloc _).drew⟩
   ·exact⟨Zh (HB.out (by rw[beq_eq_false_iff_ne.2 (Nat.ne_of_gt af.out)];rfl)).symm,(M.out.1.alloc _).drew⟩
   ·go_roundg (xs.length-(i+1))
    case measure=>omega
    case rel=>exact⟨i+1,by go_num,Om,Om,(M.out.1.alloc _).drew,HK.out (by simp)⟩
  ·have ac:(List.range xs.length).all (N9 xs)=true:=by
    have:=M.out.2;rw[(Om:i=xs.length)]at this;exact this
   by_cases h0:0<xs.length
   ·have am:(0:Int)<(xs.length:Int):=Om;have e0:Hid (true=Hy xs):=by show _=_;unfold Hy;rw[ac,decide_eq_true h0];rfl
    go_wp2_with fail
    first|go_ret|go_ret2
    exact⟨Zh e0.out,M.out.1⟩
   ·have am:¬ (0:Int)<(xs.length:Int):=Om;have e0:Hid (false=Hy xs):=by show _=_;unfold Hy;rw[ac,decide_eq_false h0];rfl
    go_wp2_with fail
    first|go_ret|go_ret2
    exact⟨Zh e0.out,M.out.1⟩
end
section
open Go.RowKit DT SS TR LT UC Go.Lib
theorem Zjp:P0 Tryz.prog 9 1 16:=Rq Kr
theorem Br(r:Nat):(Qw r=true/\((r<=32/\decide ((r:Int)<=32)=true)\/r=133\/r=160\/r=12288\/r=8232\/r=8233\/r=8239\/r=8287\/r=5760\/r=65533\/(8192<=r/\r<=8203/\¬ r<=32/\r≠133/\r≠160/\r≠12288)))\/(Qw r=false/\¬ r<=32/\r≠133/\r≠160/\r≠12288/\(¬ 8192<=r\/(8192<=r/\¬ r<=8203))/\r≠8232/\r≠8233/\r≠8239/\r≠8287/\r≠5760/\r≠65533):=by
 cases h:Qw r with
 | true =>
  left;refine⟨rfl,?_⟩;simp only[Qw,Bool.or_eq_true,decide_eq_true_eq,beq_iff_eq,Bool.and_eq_true]at h;rw[decide_eq_true_eq];omega
 | false =>
  right;refine⟨rfl,?_⟩;simp only[Qw,Bool.or_eq_false_iff,decide_eq_false_iff_not,beq_eq_false_iff_ne,Bool.and_eq_false_iff]at h;omega
theorem Hv(w:World)(O:Nat->Prop)(A:Option Addr)(c:Nat)(us:List GRec)(h:tRec.At w O A us)(hs:∀ u∈us,u.text.size<=2147483647)(hl:us.length<=2147483647) :
  Calls Tryz.prog 28 #[.slice A us.length c] w λe w'=>e=.returned (.bool (ruB us))/\Zf w w':=by
 obtain⟨n,hn⟩:∃ n,n=us.length:=⟨_,rfl⟩;rw[<- hn]at hl⊢;have HU:=Hd (Ai1 h (Ai1 hs hn));clear h hs hn;go_enter Tryz.func28,Tryz.ntmps28
 go_wp2_with fail
 go_loopg [3,10] n (λg1 v3 aq wr=>∃ (i:Nat) (u:Value),v3=u/\aq=.int .i64 (i:Int)/\i<=n/\n<=i+g1/\Hid (RowK Ty.str 9 u ((us.take i).map GRec.text) w.heap.size wr/\Zf w wr/\(us.take i).all N1=true))
 case atStart=>exact⟨0,_,rfl,rfl,Om,Om,RowK.nil _,Fl _,rfl⟩
 case round =>
  obtain⟨i,u,rfl,rfl,hi,hg,z⟩:=hrel;by_cases av:i<n
  ·have be:(i:Int)<(n:Int):=Om;have bb:(0:Int)<=(i:Int):=Om;have I:i<us.length:=by rw[<- HU.out.2.2];exact av
   obtain⟨b,o,p,q,rfl,_,bg,⟨Ap,cp,ep,_,_,_⟩,⟨Aq,cq,eq,_,_,_⟩,au,bd,e0,e1,e2,e3⟩:=Dq HU.out.1 i I;cases ep;cases eq;have q0:=z.out.2.1.cell e0 id;have q1:=z.out.2.1.cell e1 id;have q2:=z.out.2.1.cell e2 id;have q3:=z.out.2.1.cell e3 id;have HB:Hid (N1 us[i]=false->ruB us=false):=λe=>by unfold ruB;rw[Vc N1 _ _ I e];rfl
   have HK:Hid (N1 us[i]=true->(us.take (i+1)).all N1=true/\us.take (i+1)=us.take i++[us[i]]):=λe=>⟨Wg N1 _ _ I z.out.2.2 e,List.take_succ_eq_append_getElem I⟩
   have bc:=HU.out.2.1 _ (List.getElem_mem I);clear e0 e1 e2 e3;generalize us[i]=x at *;obtain⟨ad,K⟩:∃ A,A=(Zd x.text).all λc=>!Qw (Xi c):=⟨_,rfl⟩
   have hk:N1 x=(ad&&(decide (1<=x.tokens.length)&&decide (x.tokens.length=x.yomi.length))):=by rw[K];rfl
   have ap:=Hd K;rw[hk]at HB HK;have HL:=Hd z.out.1.low;clear K hk I;go_upto_region 5 with fail
   obtain⟨rb,Y⟩:∃ rb,rb=wr.heap.size:=⟨_,rfl⟩;have U:=alloc_at wr (.cells #[.string x.text,.slice Ap x.tokens.length cp,.slice Aq x.yomi.length cq,.string x.pos] 70);have XA:Zf wr (wr.alloc (.cells #[.string x.text,.slice Ap x.tokens.length cp,.slice Aq x.yomi.length cq,.string x.pos] 70)):=(Fl _).alloc _;rw[<- Y]at U⊢;have al:=Hd (Ai1 XA Y);clear XA q0 q1 q2 q3 Y;generalize wr.alloc _=wa at *;have b0:=cell_of U 0 (.string x.text) rfl;have a6:=Hd U;clear U;go_wp2_with fail
   obtain⟨ib,ab⟩:∃ b,b=wa.heap.size:=⟨_,rfl⟩;rw[<- ab];have ao:=Hd ab;clear ab b0
   go_loopg [] x.text.size (λg2 wc=>∃ pos:Nat,Hid (wc.heap[ib]?=some (.stringIter x.text pos))/\x.text.size<=pos+g2/\Hid (Zf wa wc)/\Hid ((Xl (x.text.data.toList.drop pos)).all (λc=>!Qw (Xi c))=ad))
   case atStart=>exact⟨0,by rw[ao.out];exact World.iter_heap wa x.text 0,Om,(Fl _).alloc _,ap.symm⟩
   case round =>
    obtain⟨pos,HI,bf,HX,HA⟩:=hrel;by_cases hp:pos<x.text.size
    ·have Z:=λty=>Pm (P:=Tryz.prog) HI.out ty hp
     have G:x.text.data.toList.length=x.text.size:=by rw[Array.length_toList];rfl
     have aa:x.text.data.toList.drop pos≠[]:=by
      intro e;have:=congrArg List.length e;rw[List.length_drop,G]at this;simp at this;omega
     have ac:=chunk_step _ aa;have X:=P8 aa;rw[decodeL_drop,List.drop_drop]at ac;rw[decodeL_drop]at X;have hA:=HA.out;rw[ac,List.all_cons,X]at hA;have W:=Lib.width_pos x.text pos;have ah:=Lib.rune_le x.text pos;have XN:Zf wa (Wi wr ib x.text (pos+(Utf8.decode x.text pos).2)):=HX.out.trans (Tn wr ib x.text _) (λj hj e=>by have:=ao.out;omega);have IN:=Pu (pos+(Utf8.decode x.text pos).2) HI.out;clear ac X aa G;generalize Utf8.decode x.text pos=dp at Z hA W ah XN IN;obtain⟨r,wd⟩:=dp;simp only at Z hA W ah XN IN;have HN:=Hd (Ai1 hA (Ai1 XN IN));clear hA XN IN;rcases Br r with ⟨hw,aw⟩|⟨hw,h0,h1,h2,h3,ay,h6,h7,h8,h9,a1,az⟩
     ·have M:Hid (false=ruB us/\Zf w (Wi wr ib x.text (pos+wd))):=⟨(HB.out (by rw[<- HN.1,hw];rfl)).symm,(z.out.2.1.trans al.out.1 (λ_ _ e=>e)).trans HN.2.1 (λ_ _ e=>e)⟩;clear hw HN W;rcases aw with ⟨h0,bh⟩|rfl|rfl|rfl|rfl|rfl|rfl|rfl|rfl|rfl|⟨h4,h5,g0,g1,g2,g3⟩
      all_goals (go_wp2_with fail)
      all_goals (first|go_ret|go_ret2)
      all_goals exact⟨Zh M.out.1,M.out.2⟩
     ·have HW:=Hd hw;have k0:¬ (r:Int)<=32:=Om;have k1:=beq_eq_false_iff_ne.2 ((Om:(r:Int)≠133));have k2:=beq_eq_false_iff_ne.2 ((Om:(r:Int)≠160));have k3:=beq_eq_false_iff_ne.2 ((Om:(r:Int)≠12288));have k6:=beq_eq_false_iff_ne.2 ((Om:(r:Int)≠8232));have k7:=beq_eq_false_iff_ne.2 ((Om:(r:Int)≠8233));have k8:=beq_eq_false_iff_ne.2 ((Om:(r:Int)≠8239));have k9:=beq_eq_false_iff_ne.2 ((Om:(r:Int)≠8287));have a8:=beq_eq_false_iff_ne.2 ((Om:(r:Int)≠5760));have a7:=beq_eq_false_iff_ne.2 ((Om:(r:Int)≠65533));clear hw h0 h1 h2 h3 h6 h7 h8 h9 a1 az;rcases ay with h4|⟨h4,h5⟩
      all_goals (go_wp2_with fail)
      all_goals (go_roundg (x.text.size-(pos+wd)))
      all_goals (first|omega|exact⟨pos+wd,HN.2.2,Om,HN.2.1,by
       have:=HN.1;rw[HW.out,Bool.not_false,Bool.true_and]at this
       exact this⟩)
    ·have Z:=λty=>V4 (P:=Tryz.prog) HI.out ty hp
     have G:x.text.data.toList.length=x.text.size:=by rw[Array.length_toList];rfl
     have EA:Hid (ad=true):=by
      show _=_;have:=HA.out;rw[List.drop_eq_nil_of_le Om]at this;exact this.symm
     have V:=HX.out.heap a6.out id;have b0:=cell_of V 0 (.string x.text) rfl;have b1:=cell_of V 1 (.slice Ap x.tokens.length cp) rfl;have b2:=cell_of V 2 (.slice Aq x.yomi.length cq) rfl;have lb:rb<wr.heap.size:=lt_of_cell b0;have L:=Hd (al.out.1.trans HX.out (λ_ _ e=>e));clear G V;by_cases t1:1<=x.tokens.length
     ·by_cases t2:x.tokens.length=x.yomi.length
      ·have ae:¬ (x.tokens.length:Int)<1:=Om;have ar:((x.tokens.length:Int) != (x.yomi.length:Int))=false:=bne_eq_false_iff_eq.2 Om;have am:=Hd (HK.out (by rw[EA.out,decide_eq_true t1,decide_eq_true t2];rfl));have bi:=Hd t2;clear t2
       go_wp2_with (first
        | (at_builtin;refine RowK.lst (v:=u3) rfl _ _ 34 rfl x.text [.string x.text] 16 ⟨wr.heap.size,0,none⟩ Tryz.underlying34 Zjp (by decide) Om rfl rfl (z.out.1.ext (L.out.alloc _)) (by rw[List.length_map,List.length_take];omega) (by have:=(z.out.2.1.trans L.out (λ_ _ e=>e)).size;simp;omega) (Z2 _ _) ⟨rfl,au⟩ ?_;intro v' w6 ak ai ax;have H6:=Hd (Ai1 ak ai);clear ak ai ax)
        | fail)
       go_roundg (n-(i+1))
       case measure=>omega
       case rel=>exact⟨i+1,v',rfl,by go_num,Om,Om,by rw[am.out.2,List.map_append];exact H6.out.1,((z.out.2.1.trans L.out (λ_ _ e=>e)).alloc _).trans H6.out.2 (λj hj e=>by have:=(HL.out j e).1;omega),am.out.1⟩
      ·have M:Hid (false=ruB us/\Zf w wr):=⟨(HB.out (by rw[decide_eq_false t2,Bool.and_false,Bool.and_false])).symm,z.out.2.1.trans L.out (λ_ _ e=>e)⟩;have ae:¬ (x.tokens.length:Int)<1:=Om;have ar:((x.tokens.length:Int) != (x.yomi.length:Int))=true:=bne_iff_ne.2 Om;go_wp2_with fail
       first|go_ret|go_ret2
       exact⟨Zh M.out.1,M.out.2⟩
     ·have M:Hid (false=ruB us/\Zf w wr):=⟨(HB.out (by rw[decide_eq_false t1,Bool.false_and,Bool.and_false])).symm,z.out.2.1.trans L.out (λ_ _ e=>e)⟩;have ae:(x.tokens.length:Int)<1:=Om;go_wp2_with fail
      first|go_ret|go_ret2
      exact⟨Zh M.out.1,M.out.2⟩
  ·obtain rfl:i=n:=Om
   have af:us.take i=us:=by rw[HU.out.2.2];exact List.take_length
   have ag:=z.out.1.slice;rw[af]at ag;have J:=z.out.2.2;rw[af]at J;obtain⟨A3,c3,e3,_,_,aj⟩:=ag;simp only[List.cons.injEq,and_true]at e3;rw[List.length_map,<- HU.out.2.2]at e3;have CO:=Hd (Zau wr _ A3 c3 (us.map GRec.text) aj (λs hs=>by obtain⟨u,hu,rfl⟩:=List.mem_map.1 hs;exact HU.out.2.1 u hu));rw[List.length_map,<- HU.out.2.2]at CO;have M:Hid (Hy (us.map GRec.text)=ruB us):=by show _=_;unfold ruB;rw[J,Bool.true_and]
   clear aj J;subst e3
   go_wp2_with (first
    | (go_at_call 85;refine CO.out.mono ?_;rintro e w2 ⟨rfl,hx⟩;have HX:=Hd hx;clear hx)
    | fail)
   first|go_ret|go_ret2
   exact⟨Zh M.out,z.out.2.1.trans HX.out (λ_ _ e=>e)⟩
theorem Zj7(w:World)(O G:Nat->Prop)(d:Zg)(cs:List Value)(A:Option Addr)(c:Nat)(xs:List ByteArray)(h:tDict.R w O d cs)(q:Yb d=true)(K:U8 w)(I:Ty.str.At w G A xs) :
  Calls Tryz.prog 9 #[.agg cs.toArray,.slice A xs.length c] w λe w'=>e=.returned (.bool (Uf d xs))/\Zf w w':=by
 refine Zj6 w O G d cs A c xs h q K I (λW B k z=>Hv W O B k d.user z (λu J=>?_) ?_)
 ·have q:=q;unfold Yb at q;simp only[Bool.and_eq_true]at q;have:=List.all_eq_true.1 q.2.2.2.2.2.2.2.2 u J;unfold Wm at this;rw[Bool.and_eq_true]at this;simpa [Yl] using this.1
 ·have q:=q;unfold Yb at q;simp only[Bool.and_eq_true]at q;simpa [Yl] using q.2.2.2.2.2.2.2.1
end
section
open Go.RowKit DT SS TR LT
def usL(d:Zg):List GRec:=if d.hasUser then Jx d else []
def Ho(d:Zg)(us:List GRec)(x:Nd):Prop :=
 x.cls<=3/\(x.cls=1->∃ i:Nat,x.id=i/\i<(Zw d).length)/\(x.cls=2->∃ i:Nat,x.id=i/\i<(Ze d).length)/\(x.cls=3->∃ i:Nat,x.id=i/\i<us.length)
theorem Hf{d:Zg}{us:List GRec}{x:Nd}(h:x.cls=0):Ho d us x :=
 ⟨Om,λe=>absurd (h.symm.trans e) (by decide),λe=>absurd (h.symm.trans e) (by decide),λe=>absurd (h.symm.trans e) (by decide)⟩
theorem Zl7{d:Zg}(A:Zl d=true)(hd:Hr d)(q:Option (List ByteArray))(us:List GRec)(G:∀ ks,q=some ks->Y6 ks/\ks.length=us.length){s:ByteArray}(J:Rd s):∀ x∈lat (Z3 d q) s,Ho d us x:=by
 intro x h;unfold lat Ua at h;rcases List.mem_cons.1 h with rfl|h
 ·exact Hf rfl
 rcases List.mem_cons.1 h with rfl|h
 ·exact Hf rfl
 obtain⟨k,I,h⟩:=List.mem_flatMap.1 h;have I:k<(Zd s).length:=by rw[<- Tz];exact List.mem_range.1 I
 have known:∀ x∈Vl (Z3 d q) s k (bp (Zd s) k),Ho d us x:=λx h=>by
  obtain⟨y,z,rfl⟩:=List.mem_map.1 h;obtain⟨hi,_⟩:=Pf (Oa A hd) z;rw[List.length_map]at hi;exact⟨by show 1<=3;omega,λ_=>⟨y.1,rfl,hi⟩,λe=>absurd (show (1:Nat)=2 from e) (by decide),λe=>absurd (show (1:Nat)=3 from e) (by decide)⟩
 have user:∀ x∈Us (Z3 d q) s k (bp (Zd s) k),Ho d us x:=λx h=>by
  cases q with
  | none=>cases h
  | some ks =>
   obtain⟨y,z,rfl⟩:=List.mem_map.1 h;obtain⟨hi,_⟩:=Pf (G ks rfl).1 z;rw[(G ks rfl).2]at hi;exact⟨by show 3<=3;omega,λe=>absurd (show (3:Nat)=1 from e) (by decide),λe=>absurd (show (3:Nat)=2 from e) (by decide),λ_=>⟨y.1,rfl,hi⟩⟩
 have unk:∀ x∈Oy (Z3 d q) s (Zd s) k,Ho d us x:=λx h=>by
  have K:=(Me A q _ (Hi A q (Xi ((Zd s).getD k [])))).2.2;obtain⟨i,hi,h⟩:=List.mem_flatMap.1 h;have hi:=List.mem_range.1 hi
  have key:∀ p l,Ho d us (Xq s k p 2 ((Z3 d q).unk.getD ((Z3 d q).idx ((Z3 d q).cat (Xi ((Zd s).getD k [])))+i) default) ((Z3 d q).idx ((Z3 d q).cat (Xi ((Zd s).getD k [])))+i) l):=λp l =>
   ⟨by show 2<=3;omega,λe=>absurd (show (2:Nat)=1 from e) (by decide),λ_=>⟨_,rfl,Om⟩,λe=>absurd (show (2:Nat)=3 from e) (by decide)⟩
  rcases List.mem_append.1 h with h|h
  ·split at h
   ·rw[List.mem_singleton.1 h];exact key _ _
   ·cases h
  ·rw[List.mem_singleton.1 h];exact key _ _
 unfold Xu at h
 split at h
 ·rcases List.mem_append.1 h with h|h
  ·exact known x h
  ·split at h
   ·exact unk x h
   ·cases h
 ·exact user x h
structure Zov(d:Zg)(us:List GRec)(x:Nd):Prop where
 cls:Ho d us x
 id:-1<=x.id/\x.id<=1000000
 pos:x.pos<=2000000
 start:x.start<=2000000
 size:x.surf.size<=1000
theorem Zi5{d:Zg}(M:Zl d=true)(hd:Hr d)(h:Option (List ByteArray))(us:List GRec)(K:∀ ks,h=some ks->Y6 ks/\ks.length=us.length){s:ByteArray}(L:Rd s)(I:s.size<=300)(q:Int):∀ y∈Lp (Z3 d h) q s,Zov d us y:=by
 intro y z;obtain⟨h1,h2⟩:=Zeu M hd h (λks e=>(K ks e).1) L I q y z;obtain⟨m,V,z⟩:=List.mem_flatMap.1 z;have J:=Ml M hd h (λks e=>(K ks e).1) L I
 have U:1<(lat (Z3 d h) s).length:=by
  have:lat (Z3 d h) s=Qz::Ot s::(List.range (Lib.runeCount s)).flatMap (Xu (Z3 d h) s (Zd s)):=rfl;rw[this,List.length_cons,List.length_cons];omega
 have A:=P3 (Ms (Z3 d h) q _ J.2 _) _ _ U m V;have e:(lat (Z3 d h) s).getD m default=(lat (Z3 d h) s)[m]:=by rw[List.getD_eq_getElem?_getD,Ge A];rfl
 rw[e]at z;have G:=J.1 _ (List.getElem_mem A);have W:=Zl7 M hd h us K L _ (List.getElem_mem A);generalize (lat (Z3 d h) s)[m]=x at *;unfold Xf at z
 split at z
 ·rw[List.mem_singleton.1 z]at h1 h2⊢;exact⟨W,G.id,by have:=G.pos;omega,h1,h2⟩
 ·rw[List.mem_reverse]at z;obtain⟨i,hi,rfl⟩:=List.mem_map.1 z;refine⟨Hf rfl,G.id,?_,h1,h2⟩;show x.pos+bp (Zd x.surf) i<=2000000;have:=My x.surf i;have:=G.size;have:=G.pos;omega
theorem Ec(z:Bool)(l:List Nd):∀ i,i<=l.length->∀ t∈Vn z l i,t.index<(Vn z l i).length/\∃ x∈l,t.id=x.id/\t.cls=x.cls/\t.pos=x.pos/\t.start=x.start/\t.fin=x.start+Lib.runeCount x.surf/\(t.surf=x.surf\/t.surf.size=3)
 | 0,_,t,q=>by cases q
 | i+1,hi,t,q=>by
  have A:=Ec z l i Om;unfold Vn Qt at q⊢
  split at q
  ·next h=>rw[if_pos h];exact A t q
  ·next h =>
   rw[if_neg h];rcases List.mem_append.1 q with q|q
   ·obtain⟨a,b⟩:=A t q;refine⟨?_,b⟩;rw[List.length_append,List.length_singleton];omega
   ·have e:=List.mem_singleton.1 q;subst e;refine⟨?_,l.getD i default,?_,rfl,rfl,rfl,rfl,rfl,?_⟩
    ·rw[List.length_append,List.length_singleton];exact Nat.lt_succ_self _
    ·rw[List.getD_eq_getElem?_getD,Ge ((Om:i<l.length))];exact List.getElem_mem ((Om:i<l.length))
    ·show (if _ then _ else _)=_\/(if _ then _ else _:ByteArray).size=3
     split
     ·right;split<;>rfl
     ·exact .inl rfl
theorem Zej{d:Zg}(M:Zl d=true)(hd:Hr d)(A:Option (List ByteArray))(us:List GRec)(K:∀ ks,A=some ks->Y6 ks/\ks.length=us.length){s:ByteArray}(L:Rd s)(z:s.size<=300)(J:Bool)(q:Int):∀ t∈Ww (Z3 d A) J q s,Uh d us t:=by
 intro t V;have hl:=Nu M hd A (λks e=>(K ks e).1) L z J q;obtain⟨h1,x,U,I,G,e3,e4,e5,Y⟩:=Ec J _ _ (by rw[List.length_reverse];exact Nl _) t V;have h:=Zi5 M hd A us K L z q x (List.mem_reverse.1 U);have X:=Lib.runeCount_le x.surf;obtain⟨c1,c2,c3,Z⟩:=h.cls;refine⟨by rw[G];exact c1,by rw[I,G];exact c2,by rw[I,G];exact c3,by rw[I,G];exact Z,?_⟩;have hp:=h.pos;have W:=h.start;have z:=h.size;refine⟨by unfold Ww at hl;omega,by rw[I];exact h.id,Om,Om,Om,?_⟩;rcases Y with e|e
 ·rw[e];exact z
 ·omega
theorem Gv{s:ByteArray}:∀ {l:List ByteArray},s∈l->s.size+1<=total l
 | x::l,h=>by
  show s.size+1<=x.size+1+total l;rcases List.mem_cons.1 h with rfl|h
  ·omega
  ·have:=Gv h;omega
theorem J2{d:Zg}(h:Xx d=true):(∀ u∈d.words,(u.pos.length<=20/\u.contents.length<=20)/\(∀ s∈u.pos,s.size<=4000))/\(∀ u∈d.unknown,u.contents.length<=20)/\d.words.length<=60/\d.unknown.length<=30/\d.meta0.length<=20/\d.unkMeta.length<=20/\d.chars.length<=30/\d.user.length<=30/\total (Uv d)<=4000:=by
 unfold Xx at h;simp only[Bool.and_eq_true,List.all_eq_true,decide_eq_true_eq]at h;obtain⟨h1,h2,_,h4,L,K,J,I,_,A,q⟩:=h;refine⟨λu z=>?_,λu z=>?_,h4,L,K,J,I,A,?_⟩
 ·have:=h1 u z;unfold Vs Og at this;simp only[Bool.and_eq_true,decide_eq_true_eq,List.map_cons,List.map_nil,List.sum_cons,List.sum_nil]at this;refine⟨⟨this.1,this.2.1⟩,λs G=>?_⟩;have h3:=Gv G;omega
 ·have:=h2 u z;unfold Tu at this;simp only[Bool.and_eq_true,decide_eq_true_eq]at this;exact this.1
 ·unfold Og at q;simpa using q
theorem Cq{d:Zg}{s:ByteArray}(h:Uf d [s]=true)(J:Yb d=true):(Rd s/\s.size<=300)/\Zl d=true/\Hr d/\C9 d/\usL d=(if d.hasUser then d.user else []):=by
 unfold Uf at h;simp only[Bool.and_eq_true,List.all_cons,List.all_nil,Bool.and_true,Bool.or_eq_true,Bool.not_eq_true']at h;obtain⟨h1,h2,h3,h4,V⟩:=h;obtain⟨M,L,k3,k4,k5,Z,Y,X,W⟩:=J2 h4
 have K:Rc (d.words.map GWord.surface)+Rc (d.user.map GRec.text)<=4000:=by
  have e:total (Uv d)=Rc (d.words.map GWord.surface)+Rc (d.user.map GRec.text):=by
   unfold total Uv Rc;rw[List.map_append,List.sum_append,List.map_map,List.map_map];try rfl
  omega
 unfold Yb at J;simp only[Bool.and_eq_true,List.all_eq_true]at J;have A:=J.2.2.2.2.2.2.2.2
 have G:d.hasUser=true->Zd5 d.user:=λz=>by
  rcases h3 with q|q
  ·rw[z]at q;cases q
  ·refine Zla q (λu z=>?_) Om Om;have:=A u z;unfold Wm at this;rw[Bool.and_eq_true]at this;simpa [Yl] using this.1
 have I:d.hasUser=true->Jx d=d.user:=λz=>Zie Vj Gz d.user (by
  have:=(G z).asc;rw[List.pairwise_map]at this
  exact this)
 refine⟨(Zlr s).1 h1,V,⟨Om,λu z=>?_,Om,λu z=>?_,Om,Om,Om,Om⟩,λz=>⟨by rw[I z];exact G z,λu U=>?_⟩,?_⟩
 ·have:=(M u z).1;omega
 ·have:=L u z;omega
 ·have:=A u U;unfold Wm Xr at this;simp only[Bool.and_eq_true,Yl,decide_eq_true_eq]at this;omega
 ·unfold usL
  split
  ·next z=>exact I z
  ·rfl
theorem Ze1{d:Zg}(h:C9 d):∀ ks,Th d=some ks->Y6 ks/\ks.length=(usL d).length:=by
 intro ks e;refine⟨Ew h ks e,?_⟩;unfold Th at e;unfold usL
 split at e
 ·next hu=>cases e;rw[if_pos hu,List.length_map]
 ·cases e
theorem Zek{d:Zg}{s:ByteArray}(h:Uf d [s]=true)(hf:Yb d=true)(hb:∀ u∈d.user,total u.tokens<=1048576/\total u.yomi<=1048576){Y:Bool}{J:Int}{W w':World}{v:Value}{V H U K:Nat}(X:Zk4 d (Th d) (xOf d) Y J s W v V H U K w'):Vd d (usL d) V (Zgn (Th d) K) H U w':=by
 obtain⟨_,hr,hd,q,e⟩:=Cq h hf
 have L:Xx d=true:=by
  unfold Uf at h;simp only[Bool.and_eq_true]at h;exact h.2.2.2.1
 obtain⟨k1,Z,k3,_⟩:=J2 L;have z:=Ri hr;refine⟨X.2.1,λG=>?_,by rw[Bp];omega,⟨λu q=>?_,λu q=>?_,λu z=>?_⟩,λm h=>?_,λm h=>?_⟩
 ·have I:d.hasUser=true:=by
   unfold usL at G
   split at G
   ·assumption
   ·exact absurd rfl G
  have A:=X.2.2.2.1;unfold xOf at A;rw[I]at A;refine⟨K,?_,?_⟩
  ·unfold Th;rw[I];rfl
  ·unfold usL;rw[I];exact A
 ·have q:=(Z0 V0 d.words).mem_iff.1 q;obtain⟨⟨a,b⟩,c⟩:=k1 u q;exact⟨Om,Om,λs L=>by have:=c s L;omega⟩
 ·have q:=(Z0 Ok d.unknown).mem_iff.1 q;have:=Z u q;omega
 ·rw[e]at z
  split at z
  ·next I =>
   have h1:=(q I).1
   have M:Jx d=d.user:=by
    unfold usL at e;rw[I]at e;exact e
   rw[M]at h1;exact⟨(h1.toks u z).1,(h1.toks u z).2,hb u z⟩
  ·cases z
 ·obtain⟨x,A,rfl⟩:=List.mem_map.1 h;exact z x (List.mem_append_left _ A)
 ·obtain⟨x,A,rfl⟩:=List.mem_map.1 h;exact z x (List.mem_append_right _ A)
end
section
open Go.RowKit DT SS TR LT
theorem RowK.elem{α:Type}{d:Ty α}{T:TypeId}{A:Option Addr}{n c:Nat}{xs:List α}{B:Nat}{w:World}(h:RowK d T (.slice A n c) xs B w)(i:Nat)(hi:i<xs.length):∃ b o cs,A=some ⟨b,o,none⟩/\b<w.heap.size/\d.R w (λ_=>True) xs[i] cs/\∀ j (I:j<cs.length),w.cell? ⟨b,o+i*d.sz+j,none⟩=some cs[j]:=by
 obtain⟨J,c',e,_,_,_,h1⟩:=h.slice;simp only[List.cons.injEq,Value.slice.injEq,and_true]at e;obtain⟨rfl,rfl,rfl⟩:=e;rcases h1 with rfl|⟨b,o,rfl,_,hl,G⟩
 ·simp at hi
 ·obtain⟨cs,z,q⟩:=G i hi;exact⟨b,o,cs,rfl,hl,d.mono (λ_ _ _=>trivial) z,q⟩
theorem Zaw(W:World)(s:ByteArray)(h:s.size<=9223372036854775807):Ty.str.At (W.alloc (.cells #[.string s] 9)) (λ_=>True) (some ⟨W.heap.size,0,none⟩) [s]:=by
 refine⟨by simp,.inr ⟨_,_,rfl,trivial,by rw[Za];omega,λi hi=>?_⟩⟩;have:i=0:=by simpa using hi
 subst this;refine⟨[.string s],⟨rfl,h⟩,λj q=>?_⟩;have:j=0:=by simpa using q
 subst this;exact cell_of (alloc_at _ _) 0 _ rfl
end
end Go.Proofs.YtlfoalomaofejaaGreatDoor
