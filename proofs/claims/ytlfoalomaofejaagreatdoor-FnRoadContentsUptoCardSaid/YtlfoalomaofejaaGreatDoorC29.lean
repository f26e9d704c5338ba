/- lattice.Forward. -/
import Derived.Test.YtlfoalomaofejaaGreatDoorC25
set_option linter.all false
set_option maxRecDepth 100000
set_option maxHeartbeats 4000000
namespace Go.Proofs.YtlfoalomaofejaaGreatDoor
open Go.RowKit DT SS TR LT
structure Zbp(d:Zg)(R:Nat)(x:Nd):Prop where
 start:x.start<R
 valid:Lib.validD x.surf.data.toList=true
 size:x.surf.size<=1000
 ids:x.cls≠3->(0<=x.m.rt/\x.m.rt<d.rows)/\(0<=x.m.lf/\x.m.lf<d.cols)
 wt:-32768<=x.m.wt/\x.m.wt<=32767
def FS(g R:Nat)(vs:Nat->Value)(ns:List Nd)(nb:Nat->Nat)(w0:World)(st:St)(w:World):Prop :=
 Ym w g R vs ns nb st.cost st.prev/\Xk st/\Fr (λj=>∃ m,m<ns.length/\j=nb m) w0 w
theorem FS.ext{g R:Nat}{vs:Nat->Value}{ns:List Nd}{nb:Nat->Nat}{w0 w w':World}{st:St}(h:FS g R vs ns nb w0 st w)(f:Zf w w'):FS g R vs ns nb w0 st w':=⟨h.1.ext f,h.2.1,h.2.2.ext f⟩
theorem FS.node{g R:Nat}{vs:Nat->Value}{ns:List Nd}{nb:Nat->Nat}{w0 w:World}{st:St}(h:FS g R vs ns nb w0 st w)(m:Nat)(hm:m<ns.length)(j:Nat)(u:Value)(hj:(Xd (ns.getD m default) (st.cost m) ((st.prev m).map nb))[j]?=some u):w.cell? ⟨nb m,j,none⟩=some u:=Zb (h.1.node m hm) j u hj
theorem Za2(s:ByteArray)(hs:s.size<=1000):0<=extra s/\extra s<=3000000:=by
 have:=Lib.runeCount_le s;unfold extra
 split
 ·omega
 ·split<;>omega
theorem Zge{d:Zg}(hr:Zm d=true)(uk:Option (List ByteArray)){kd H U:Nat}{W:World}(hD:Zx d kd H U W)(rt lf:Int)(h1:0<=rt/\rt<d.rows)(h2:0<=lf/\lf<d.cols) :
  Calls Tryz.prog 198 #[.pointer (some ⟨kd,5,none⟩),.int .i64 rt,.int .i64 lf] W λe w'=>e=.returned (.int .i16 ((Z2 d uk).conn rt lf))/\∃ q,w'=W.drewN q:=by
 obtain⟨r1,r2,r3,_⟩:=Wu hr;obtain⟨rn,rfl⟩:∃ rn:Nat,rt=rn:=⟨rt.toNat,Om⟩;obtain⟨ln,rfl⟩:∃ ln:Nat,lf=ln:=⟨lf.toNat,Om⟩;obtain⟨RN,hRN⟩:∃ RN:Nat,d.rows=RN:=⟨d.rows.toNat,Om⟩;obtain⟨CN,hCN⟩:∃ CN:Nat,d.cols=CN:=⟨d.cols.toNat,Om⟩;rw[hRN]at r1 r3 h1;rw[hCN]at r2 r3 h2
 have hlen:d.costs.length=RN*CN:=by
  have:((RN*CN:Nat):Int)=(RN:Int)*(CN:Int):=Int.natCast_mul RN CN;omega
 have hlt:RN*ln+rn<d.costs.length:=by
  rw[hlen];have:RN*(ln+1)<=RN*CN:=Nat.mul_le_mul_left RN Om;rw[Nat.mul_add]at this;omega
 have hle:d.costs.length<=4096:=by
  rw[hlen];have:RN*CN<=64*64:=Nat.mul_le_mul Om Om;omega
 obtain⟨c5,hc⟩:=hD.conn;obtain⟨g,c,c7,ce⟩:=hc _ hlt
 have e:(Z2 d uk).conn rn ln=d.costs[RN*ln+rn]:=by
  show d.costs.getD (d.rows*(ln:Int)+(rn:Int)).toNat 0=_
  have e1:(d.rows*(ln:Int)+(rn:Int)).toNat=RN*ln+rn:=by
   rw[hRN];have:((RN*ln:Nat):Int)=(RN:Int)*(ln:Int):=Int.natCast_mul RN ln;omega
  rw[e1,List.getD_eq_getElem?_getD,Ge hlt];rfl
 rw[e];exact Zmx kd 5 g 0 d.costs.length c RN rn ln _ W (by rw[<- hRN];exact c5) c7 (by rw[Nat.zero_add];exact ce) hlt Om
theorem Zlk(d:Zg)(hr:Zm d=true)(uk:Option (List ByteArray))(kd H U kl g R c:Nat)(vs:Nat->Value)(ns:List Nd)(nb:Nat->Nat)(mode:Int)(w:World)(hl:w.cell? ⟨kl,2,none⟩=some (.slice (some ⟨g,0,none⟩) R c))(hdic:w.cell? ⟨kl,3,none⟩=some (.pointer (some ⟨kd,0,none⟩)))(hD:Zx d kd H U w)
  (h:Ym w g R vs ns nb (λ_=>0) (λ_=>none)) (hn:∀ x∈ns,Zbp d R x) (hnb:∀ m,m<ns.length->U<=nb m/\nb m≠kl) (hR:R<=1000000) (hR1:1<=R) (hns:ns.length<=1000000000) :
  Calls Tryz.prog 160 #[.pointer (some ⟨kl,0,none⟩),.int .i64 mode] w λe w'=>e=.returned (.tuple #[])/\Ym w' g R vs ns nb (Vs (Z2 d uk) mode ns R).cost (Vs (Z2 d uk) mode ns R).prev/\Fr (λj=>∃ m,m<ns.length/\j=nb m) w w':=by
 have mixed:Tryz.prog.follows .mixedOrders=true:=Kr
 obtain⟨D,hDk⟩:∃ D,D=Z2 d uk:=⟨_,rfl⟩;rw[<- hDk];have HDK:=Hd hDk;have HS0:Hid (FS g R vs ns nb w (Vs D mode ns 1) (w.drewN 0)):=⟨h,λk=>⟨by show (-2147483648:Int)<=0;omega,by show (0:Int)<=2147483647;omega⟩,Fl _⟩
 have HKL:Hid (∀ W,Fr (λj=>∃ m,m<ns.length/\j=nb m) w W->W.cell? ⟨kl,2,none⟩=some (.slice (some ⟨g,0,none⟩) R c)/\W.cell? ⟨kl,3,none⟩=some (.pointer (some ⟨kd,0,none⟩))/\Zx d kd H U W):=λW f =>
  ⟨f.cell hl (by rintro⟨m,hm,e⟩;exact (hnb m hm).2 e.symm),f.cell hdic (by rintro⟨m,hm,e⟩;exact (hnb m hm).2 e.symm),hD.keep f (by rintro b _ hb ⟨m,hm,e⟩;have:=(hnb m hm).1;omega)⟩
 have HN:=Hd hn;have lkl:=lt_of_cell hl;clear hDk h hn hnb hD hdic;go_enter Tryz.func160,Tryz.ntmps160
 go_wp2_with fail
 go_quiet (fail)
 go_wp2_with fail
 have HS1:Hid (FS g R vs ns nb w (Vs D mode ns 1) (w.drewN nq)):=⟨HS0.out.1.ext ((Fl w).drewN nq),HS0.out.2.1,(Fl w).drewN nq⟩;clear HS0 hl lkl;generalize w.drewN nq=w1 at HS1⊢
 go_loopg [4] R (λg1 v4 wr=>∃ i:Nat,v4=.int .i64 (i:Int)/\1<=i/\i<=R/\R<=i+g1/\Hid (FS g R vs ns nb w (Vs D mode ns i) wr))
 case atStart=>exact⟨1,rfl,Om,Om,Om,HS1⟩
 case round =>
  clear HS1;obtain⟨i,rfl,hi1,hiR,hg1,HF⟩:=hrel;by_cases hlt:i<R
  ·have hltz:(i:Int)<(R:Int):=Om;obtain⟨kl2,kl3,hD⟩:=HKL.out wr HF.out.2.2;obtain⟨Ai,ci,evi⟩:=Zl (HF.out.1.row i hlt);have gi:=(HF.out.1.cell i hlt).1;rw[evi]at gi;have lkl:=lt_of_cell kl2;have lg:=lt_of_cell gi;obtain⟨ni,hni⟩:∃ ni,ni=(LT.row ns i).length:=⟨_,rfl⟩;rw[<- hni]at gi;have HNI:=Hd (Ai1 hni evi);have hz0:(0:Int)<=(i:Int):=Om;have hnil:ni<=ns.length:=by rw[hni];unfold LT.row;exact Nt (List.length_filter_le _ _) (by simp)
   clear hni evi hD kl3;go_wp2_with fail
   go_loopg [33] ni (λg2 v33 wr=>∃ x:Nat,v33=.int .i64 (x:Int)/\x<=ni/\ni<=x+g2/\Hid (FS g R vs ns nb w (Dj D mode ns (Vs D mode ns i) i x) wr))
   case atStart=>exact⟨0,rfl,Om,Om,HF⟩
   case round =>
    clear HF gi lg kl2 lkl;obtain⟨x,rfl,hx,hg2,HX⟩:=hrel;by_cases hxl:x<ni
    ·have hxz:(x:Int)<(ni:Int):=Om;have hxi:x<(LT.row ns i).length:=by rw[<- HNI.out.1];exact hxl
     obtain⟨gp,cp,ep1,ep2⟩:=HX.out.1.getElem i hlt x hxi;rw[HNI.out.2]at ep1;simp only[Value.slice.injEq]at ep1;obtain⟨rfl,_,rfl⟩:=ep1;obtain⟨t,ht0⟩:∃ t,t=(LT.row ns i)[x]:=⟨_,rfl⟩;rw[<- ht0]at ep2;have ht:t<ns.length:=by rw[ht0];exact (Vo (List.getElem_mem hxi)).1
     have HFJ:Hid (Dj D mode ns (Vs D mode ns i) i (x+1)=Wg D mode ns (Dj D mode ns (Vs D mode ns i) i x) t):=by
      show _=_;rw[ht0];exact Zf6 D mode ns _ i x hxi
     obtain⟨st,hst⟩:∃ st,st=Dj D mode ns (Vs D mode ns i) i x:=⟨_,rfl⟩;rw[<- hst]at HX HFJ;obtain⟨bN,hbN⟩:∃ bN,bN=ns.getD t default:=⟨_,rfl⟩
     have hbm:bN∈ns:=by
      rw[hbN,List.getD_eq_getElem?_getD,Ge ht];exact List.getElem_mem ht
     have hbok:=HN.out bN hbm;have HB:=Hd (Ai1 hbN hbok);have hn2:=HX.out.node t ht 2 (.int .i64 bN.start) (by rw[hbN];rfl);obtain⟨q,hq⟩:∃ q,q=bN.start:=⟨_,rfl⟩;have hqR:q<R:=by rw[hq];exact hbok.start
     rw[<- hq]at hn2;obtain⟨Aq,cq,evq⟩:=Zl (HX.out.1.row q hqR);have gq:=(HX.out.1.cell q hqR).1;rw[evq]at gq;obtain⟨nq2,hnq⟩:∃ nq2,nq2=(LT.row ns q).length:=⟨_,rfl⟩;rw[<- hnq]at gq;have gi:=(HX.out.1.cell i hlt).1;rw[HNI.out.2,<- HNI.out.1]at gi;have HQ:=Hd (Ai1 hq (Ai1 evq hnq));obtain⟨kl2,kl3,_⟩:=HKL.out wr HX.out.2.2;have hnql:nq2<=ns.length:=by rw[hnq];unfold LT.row;exact Nt (List.length_filter_le _ _) (by simp)
     have lkl:=lt_of_cell kl2;have lgp:=lt_of_cell ep2;have lg:=lt_of_cell gi;have lnt:=lt_of_cell hn2;have hqz:(q:Int)<(R:Int):=Om;have hq0:(0:Int)<=(q:Int):=Om;have hx0:(0:Int)<=(x:Int):=Om;have HTR:=Hd ht0;clear ht0 hst hbN hbm hbok hq evq hnq kl3;go_upto_region 7 with fail
     go_quiet (fail)
     have HX2:=Hd (HX.out.ext ((Fl wr).drewN nq));have X2:Zf wr (wr.drewN nq):=(Fl wr).drewN nq;have kl2:=X2.cell kl2 id;have gi:=X2.cell gi id;have ep2:=X2.cell ep2 id;have hfz:=HX2.out.1.node t ht;have n4:(wr.drewN nq).cell? ⟨nb t,4,none⟩=some (.int .i32 (st.cost t)):=Zb hfz 4 _ rfl;have fz:=Zi hfz;have lkl:=lt_of_cell kl2;have lgp:=lt_of_cell ep2;have lg:=lt_of_cell gi;have lnt:=lt_of_cell n4;clear hfz X2 HX hn2 gq;generalize wr.drewN nq=w2 at HX2 kl2 gi ep2 n4 fz lkl lgp lg lnt⊢;by_cases hq00:nq2=0
     ·subst hq00;go_wp2_with fail
      go_roundg (ni-(x+1))
      case measure=>omega
      case rel=>exact⟨x+1,by go_num,Om,Om,by
       rw[HFJ.out]
       have e0:LT.row ns (ns.getD t default).start=[]:=by
        rw[<- HB.out.1,<- HQ.out.1];exact List.eq_nil_of_length_eq_zero HQ.out.2.2.symm
       unfold Wg;rw[if_pos e0]
       exact⟨HX2.out.1.setCost t ht Vl,HX2.out.2.1.up t Vl _ (by unfold Vl;omega),HX2.out.2.2.setCell ⟨nb t,4,none⟩ _ (λ_=>⟨t,ht,rfl⟩)⟩⟩
     ·have hq00z:¬ (nq2:Int)=0:=Om;clear gi ep2 n4 fz lkl lgp lg lnt kl2;go_wp2_with fail
      obtain⟨l,hl0⟩:∃ l,l=LT.row ns q:=⟨_,rfl⟩;have HL:=Hd hl0
      go_loopg [65] nq2 (λg3 v65 wr=>∃ j:Nat,v65=.int .i64 (j:Int)/\j<=nq2/\nq2<=j+g3/\Hid (FS g R vs ns nb w (rel D mode ns t st l j) wr))
      case atStart=>exact⟨0,rfl,Om,Om,by rw[Zhp];exact HX2⟩
      case round =>
       clear HX2 hl0;obtain⟨j,rfl,hj,hg3,HJ⟩:=hrel;by_cases hjl:j<nq2
       ·have hjz:(j:Int)<(nq2:Int):=Om;have hlr:l=LT.row ns q:=HL.out;have hjr:j<(LT.row ns q).length:=by rw[<- HQ.out.2.2];exact hjl
        obtain⟨gr,cr,er1,er2⟩:=HJ.out.1.getElem q hqR j hjr;rw[HQ.out.2.1]at er1;simp only[Value.slice.injEq]at er1;obtain⟨rfl,_,rfl⟩:=er1;obtain⟨n,hn0⟩:∃ n,n=(LT.row ns q)[j]:=⟨_,rfl⟩;rw[<- hn0]at er2;have hnl:n<ns.length:=by rw[hn0];exact (Vo (List.getElem_mem hjr)).1
        have HRS:Hid (rel D mode ns t st l (j+1)=relax D mode ns t (rel D mode ns t st l j) (decide (j=0)) n):=by
         show _=_;have hjl2:j<l.length:=by rw[hlr];exact hjr
         rw[Zhq _ _ _ _ _ _ _ hjl2,hn0];congr 1;subst hlr;rfl
        obtain⟨sj,hsj⟩:∃ sj,sj=rel D mode ns t st l j:=⟨_,rfl⟩;rw[<- hsj]at HJ HRS;obtain⟨aN,haN⟩:∃ aN,aN=ns.getD n default:=⟨_,rfl⟩
        have ham:aN∈ns:=by
         rw[haN,List.getD_eq_getElem?_getD,Ge hnl];exact List.getElem_mem hnl
        have haok:=HN.out aN ham;have hbok:=HB.out.2;have HA:=Hd (Ai1 haN haok);have HJR:=Hd hn0;have a3:=HJ.out.node n hnl 3 (.int .i64 aN.cls) (by rw[haN];rfl);have a4:=HJ.out.node n hnl 4 (.int .i32 (sj.cost n)) rfl;have a6:=HJ.out.node n hnl 6 (.int .i32 aN.m.rt) (by rw[haN];rfl);have a8:=HJ.out.node n hnl 8 (.string aN.surf) (by rw[haN];rfl);have b3:=HJ.out.node t ht 3 (.int .i64 bN.cls) (by rw[HB.out.1];rfl);have b5:=HJ.out.node t ht 5 (.int .i32 bN.m.lf) (by rw[HB.out.1];rfl);have b7:=HJ.out.node t ht 7 (.int .i32 bN.m.wt) (by rw[HB.out.1];rfl);have lna:=lt_of_cell a3;have lnb:=lt_of_cell b3;have lgr:=lt_of_cell er2;have hj0:(0:Int)<=(j:Int):=Om;obtain⟨kl2,kl3,hDJ⟩:=HKL.out wr HJ.out.2.2;have lkl:=lt_of_cell kl3;have hck:=HJ.out.2.1 n;obtain⟨cv,hcv⟩:∃ cv,cv=(if aN.cls≠3/\bN.cls≠3 then D.conn aN.m.rt bN.m.lf else 0):=⟨_,rfl⟩;clear hsj haN ham hn0 hlr;go_upto_region 13 with fail
        go_cut [12] from 70 to 70 (λv12 wx=>v12=.int .i16 0/\wr=wx)
        case first =>
         go_wp2_with fail
         go_meet
         case rel=>exact⟨rfl,rfl⟩
        case rest =>
        obtain⟨rfl,e5⟩:=hcut;subst e5;go_step;refine wp_seq_k λK hK=>?_
        go_cut [12] from 71 to 98 (λv12 wx=>v12=.int .i16 cv/\∃ q,wx=wr.drewN q)
        case first =>
         by_cases hc1:aN.cls=3
         ·have hcb:((aN.cls:Int) != 3)=false:=by simp;omega
          have ecv:cv=0:=(by rw[hcv,if_neg Om]);clear hcv;go_wp2_with fail
          go_meet
          case rel=>exact⟨by rw[ecv],0,rfl⟩
         ·have hcb:((aN.cls:Int) != 3)=true:=by simp;omega
          by_cases hc2:bN.cls=3
          ·have hcb2:((bN.cls:Int) != 3)=false:=by simp;omega
           have ecv:cv=0:=(by rw[hcv,if_neg Om]);clear hcv;go_wp2_with fail
           go_meet
           case rel=>exact⟨by rw[ecv],0,rfl⟩
          ·have hcb2:((bN.cls:Int) != 3)=true:=by simp;omega
           have ida:=haok.ids hc1;have idb:=hbok.ids hc2;have hdim:=Wu hr
           have CQ:Hid (∀ q,Calls Tryz.prog 198 #[.pointer (some ⟨kd,5,none⟩),.int .i64 aN.m.rt,.int .i64 bN.m.lf] (wr.drewN q) λe w'=>e=.returned (.int .i16 cv)/\∃ m,w'=(wr.drewN q).drewN m):=λq=>by
            have:=Zge hr uk (hDJ.keep ((Fe wr).drewN q) (λ_ _ _=>id)) aN.m.rt bN.m.lf ida.1 idb.2;rw[hcv,if_pos ⟨hc1,hc2⟩,HDK.out];exact this
           have w1:IntKind.i64.wrap aN.m.rt=aN.m.rt:=by rw[IntKind.wrap_i64];omega
           have w2:IntKind.i64.wrap bN.m.lf=bN.m.lf:=by rw[IntKind.wrap_i64];omega
           clear hcv ida idb hdim;go_upto_region 15 with fail
           go_quiet ((go_at_call 198;exact Calls.quiet_of (CQ.out _)))
           go_wp2_with fail
           go_meet
           case rel=>exact⟨rfl,_,rfl⟩
        case rest =>
        obtain⟨rfl,q9,e5⟩:=hcut
        have hcvb:-32768<=cv/\cv<=32767:=by
         rw[hcv]
         split
         next hc =>
          rw[HDK.out];show -32768<=d.costs.getD _ 0/\d.costs.getD _ 0<=32767;rw[List.getD_eq_getElem?_getD]
          cases hq:d.costs[(d.rows*bN.m.lf+aN.m.rt).toNat]? with
          | none=>exact⟨by simp,by simp⟩
          | some y=>exact Ju hr y (List.mem_of_getElem? hq)
         next=>omega
        have HCV:=Hd hcv;have X9:Zf wr wc:=by rw[e5];exact (Fl wr).drewN q9
        have HJ9:=Hd (HJ.out.ext X9);have a4:=X9.cell a4 id;have a8:=X9.cell a8 id;have b7:=X9.cell b7 id;have lna:=lt_of_cell a4;have lnb:=lt_of_cell b7;clear e5 X9 hcv HJ kl2 kl3 hDJ lkl a3 a6 b3 b5 er2 lgr;go_step;refine wp_seq_k λK hK=>?_
        generalize wc=w9 at HJ9 a4 a8 b7 lna lnb⊢;have hwt:=hbok.wt;obtain⟨sm,hsm⟩:∃ sm,sm=cv+bN.m.wt+sj.cost n:=⟨_,rfl⟩;have HSM:=Hd hsm
        go_cut [13] from 99 to 112 (λv13 wx=>v13=.int .i64 sm/\∃ q,wx=w9.drewN q)
        case first =>
         have y1:IntKind.i64.wrap cv=cv:=by rw[IntKind.wrap_i64];omega
         have y2:IntKind.i64.wrap bN.m.wt=bN.m.wt:=by rw[IntKind.wrap_i64];omega
         have y3:IntKind.i64.wrap (sj.cost n)=sj.cost n:=by rw[IntKind.wrap_i64];omega
         have y4:IntKind.i64.wrap (cv+bN.m.wt)=cv+bN.m.wt:=by rw[IntKind.wrap_i64];omega
         have y5:IntKind.i64.wrap (cv+bN.m.wt+sj.cost n)=cv+bN.m.wt+sj.cost n:=by rw[IntKind.wrap_i64];omega
         clear hsm;go_wp2_with fail
         go_quiet (fail)
         go_wp2_with fail
         go_meet
         case rel=>exact⟨by rw[HSM.out],_,rfl⟩
        case rest =>
        obtain⟨rfl,q9,e5⟩:=hcut;have X9:Zf w9 wc:=by rw[e5];exact (Fl w9).drewN q9
        have HJ10:=Hd (HJ9.out.ext X9);have a8:=X9.cell a8 id;have lna:=lt_of_cell a8;have hsmb:-2147549185<=sm/\sm<=2147549183:=Om;clear e5 X9 HJ9 a4 b7 lnb hsm hck hcvb hwt;go_step;refine wp_seq_k λK hK=>?_
        generalize wc=w10 at HJ10 a8 lna⊢;obtain⟨s2,hs2⟩:∃ s2,s2=sm+(if mode≠1 then extra aN.surf else 0):=⟨_,rfl⟩;have HS2:=Hd hs2;clear hs2
        go_cut [13] from 113 to 118 (λv13 wx=>v13=.int .i64 s2/\Hid (Zf w10 wx))
        case first =>
         by_cases hmd:mode=1
         ·subst hmd;go_wp2_with fail
          go_meet
          case rel=>exact⟨by rw[HS2.out,if_neg (by simp),Int.add_zero],Fl _⟩
         ·have hmb:(mode != 1)=true:=(by simp[hmd]);have CA:=Zbm (nb n) aN.surf w10 a8 (by have:=haok.size;omega) haok.valid;have hex:=Za2 aN.surf haok.size;obtain⟨ex,hex0⟩:∃ ex,ex=extra aN.surf:=⟨_,rfl⟩;rw[<- hex0]at CA hex;have y1:IntKind.i64.wrap (sm+ex)=sm+ex:=by rw[IntKind.wrap_i64];omega
          have HEX:=Hd hex0;clear hex0;go_wp2_with (first|(go_at_call 199;refine CA.mono ?_;rintro e6 w6 ⟨rfl,hx⟩;have HXE:=Hd hx;clear hx)|fail)
          go_meet
          case rel=>exact⟨by rw[HS2.out,if_pos hmd,HEX.out],HXE⟩
        case rest =>
        obtain⟨rfl,HXE⟩:=hcut;have HJ11:=Hd (HJ10.out.ext HXE.out)
        have hs2b:s2<=3000000000:=by
         have hex:=Za2 aN.surf haok.size;rw[HS2.out]
         split<;>omega
        clear HXE HJ10 a8 lna hsmb;go_step;refine wp_seq_k λK hK=>?_
        generalize wc=w11 at HJ11⊢;obtain⟨T,hT⟩:∃ T,T=(if Vl<s2 then Vl else s2):=⟨_,rfl⟩;have HT:=Hd hT;clear hT
        go_cut [13] from 119 to 120 (λv13 wx=>v13=.int .i64 T/\w11=wx)
        case first =>
         by_cases hmx:2147483647<s2
         ·go_wp2_with fail
          go_meet
          case rel=>exact⟨by rw[HT.out,if_pos (show Vl<s2 from hmx)];rfl,rfl⟩
         ·go_wp2_with fail
          go_meet
          case rel=>exact⟨by rw[HT.out,if_neg (show ¬ Vl<s2 by unfold Vl;omega)],rfl⟩
        case rest =>
        obtain⟨rfl,e5⟩:=hcut;subst e5
        have HTT:Hid (T=LT.total D mode ns sj t n):=by
         show T=_;unfold LT.total;simp only;rw[HT.out,HS2.out,HSM.out,HCV.out,HA.out.1,HB.out.1]
        go_step;refine wp_seq_k λK hK=>?_
        obtain⟨WT,hWT⟩:∃ WT,WT=LT.wrap32 T:=⟨_,rfl⟩;have hwt32:IntKind.i32.wrap T=WT:=by rw[hWT];rfl
        have HWT:=Hd hWT
        have HCELL:Hid (∀ W stx,FS g R vs ns nb w stx W->W.cell? ⟨kl,2,none⟩=some (.slice (some ⟨g,0,none⟩) R c)/\W.cell? ⟨g,i,none⟩=some (.slice (some ⟨gp,0,none⟩) ni ci)/\W.cell? ⟨gp,x,none⟩=some (.pointer (some ⟨nb t,0,none⟩))/\W.cell? ⟨nb t,2,none⟩=some (.int .i64 q)/\W.cell? ⟨g,q,none⟩=some (.slice (some ⟨gr,0,none⟩) nq2 cq)/\W.cell? ⟨gr,j,none⟩=some (.pointer (some ⟨nb n,0,none⟩))):=λW stx hW=>by
         obtain⟨k2,_,_⟩:=HKL.out W hW.2.2;have z1:=(hW.1.cell i hlt).1;rw[HNI.out.2,<- HNI.out.1]at z1;obtain⟨g1',c1',e1,z2⟩:=hW.1.getElem i hlt x hxi;rw[HNI.out.2]at e1;simp only[Value.slice.injEq,Option.some.injEq,Addr.mk.injEq]at e1;have z4:=(hW.1.cell q hqR).1;rw[HQ.out.2.1,<- HQ.out.2.2]at z4;obtain⟨g2',c2',e2,z5⟩:=hW.1.getElem q hqR j hjr;rw[HQ.out.2.1]at e2;simp only[Value.slice.injEq,Option.some.injEq,Addr.mk.injEq]at e2;rw[<- e1.1.1,<- HTR.out]at z2;rw[<- e2.1.1,<- HJR.out]at z5;exact⟨k2,z1,z2,hW.node t ht 2 _ (by rw[HQ.out.1,HB.out.1];rfl),z4,z5⟩
        obtain⟨c1,c2,c3,c4,c5,c6⟩:=HCELL.out w11 sj HJ11.out;have ct4:=HJ11.out.node t ht 4 (.int .i32 (sj.cost t)) rfl;have l1:=lt_of_cell c1;have l2:=lt_of_cell c2;have l3:=lt_of_cell c3;have l4:=lt_of_cell c4;clear hWT c4 c5 c6
        go_cut [140] from 121 to 140 (λv140 wx=>v140=.bool (decide (j=0\/WT<sj.cost t))/\w11=wx)
        case first =>
         by_cases hj00:j=0
         ·subst hj00;go_wp2_with fail
          go_meet
          case rel=>exact⟨by simp,rfl⟩
         ·have hjb:((j:Int)==0)=false:=by simp;omega
          go_wp2_with fail
          go_meet
          case rel=>exact⟨by simp[hj00],rfl⟩
        case rest =>
        obtain⟨rfl,e5⟩:=hcut;subst e5;go_step;by_cases hB:j=0\/WT<sj.cost t
        ·have hBb:decide (j=0\/WT<sj.cost t)=true:=decide_eq_true hB;rw[hBb];have hfz:=HJ11.out.1.node t ht;have fz:=Zi hfz;clear hfz;go_upto_region 23 with fail
         have HJ12:Hid (FS g R vs ns nb w ⟨P7 sj.cost t WT,sj.prev⟩ (w11.setCell ⟨nb t,4,none⟩ (.int .i32 WT))):=⟨HJ11.out.1.setCost t ht WT,HJ11.out.2.1.up t WT _ (by rw[HWT.out];exact wrap32_in T),HJ11.out.2.2.setCell ⟨nb t,4,none⟩ _ (λ_=>⟨t,ht,rfl⟩)⟩;clear c1 c2 c3 ct4 l1 l2 l3 l4 fz HJ11;generalize w11.setCell _ _=w12 at HJ12⊢;obtain⟨c1,c2,c3,c4,c5,c6⟩:=HCELL.out w12 _ HJ12.out;have ct9:=HJ12.out.node t ht 9 _ rfl;have hfz:=HJ12.out.1.node t ht;have fz:=Zi hfz;have l1:=lt_of_cell c1;have l2:=lt_of_cell c2;have l3:=lt_of_cell c3;have l4:=lt_of_cell c4;have l6:=lt_of_cell c6;clear hfz;have hSD:w12.drew.cell? ⟨kl,2,none⟩=some (.slice (some ⟨g,0,none⟩) R c)/\w12.drew.cell? ⟨g,i,none⟩=some (.slice (some ⟨gp,0,none⟩) ni ci)/\w12.drew.cell? ⟨gp,x,none⟩=some (.pointer (some ⟨nb t,0,none⟩))/\w12.drew.cell? ⟨nb t,2,none⟩=some (.int .i64 q)/\w12.drew.cell? ⟨g,q,none⟩=some (.slice (some ⟨gr,0,none⟩) nq2 cq)/\w12.drew.cell? ⟨gr,j,none⟩=some (.pointer (some ⟨nb n,0,none⟩)):=⟨c1,c2,c3,c4,c5,c6⟩;refine Ya 25 26 #[false,false,false,false,false,false,false,false,false,false,false,false,false,false,false,false,false,false,false,false,false,false,false,false,false,false] (λW=>W.cell? ⟨kl,2,none⟩=some (.slice (some ⟨g,0,none⟩) R c)/\W.cell? ⟨g,i,none⟩=some (.slice (some ⟨gp,0,none⟩) ni ci)/\W.cell? ⟨gp,x,none⟩=some (.pointer (some ⟨nb t,0,none⟩))/\W.cell? ⟨nb t,2,none⟩=some (.int .i64 q)/\W.cell? ⟨g,q,none⟩=some (.slice (some ⟨gr,0,none⟩) nq2 cq)/\W.cell? ⟨gr,j,none⟩=some (.pointer (some ⟨nb n,0,none⟩))) mixed rfl rfl (hSD) (λhS=>?_);refine WL.go [(0,155),(1,156),(2,157),(3,158),(4,159),(5,160),(6,161),(7,162),(8,163),(9,164),(10,165),(11,166),(12,167),(13,168),(14,169),(15,170),(16,171),(17,172),(18,173),(19,174),(20,175),(21,176),(22,177),(23,178),(24,179)] ?_;iterate 25 (refine WL.tk (v:=?_) rfl rfl Kr (λ_ _ _ h=>h) (Or.inl ⟨Rf,?_⟩) (by assumption) ?_;rotate_left;(focus (intro w hSw;(try obtain⟨s0,s1,s2,s3,s4,s5⟩:=hSw);go_simp;(try with_reducible rfl)));simp only[Act.put,Sa,Sb1,Sc])
         refine WZ.last rfl Kr Kr (λK hK=>?_);go_simp;refine hK.out _ _ ?_;clear hK K;go_wp2_with fail
         go_roundg (nq2-(j+1))
         case measure=>omega
         case rel=>exact⟨j+1,by go_num,Om,Om,by
          rw[HRS.out];unfold relax
          have e1:(decide (j=0)=true\/LT.wrap32 (LT.total D mode ns sj t n)<sj.cost t):=by
           rw[<- HTT.out,<- HWT.out];exact hB.imp (λe=>by simp[e]) id
          rw[if_pos e1,<- HTT.out,<- HWT.out];have HF:=HJ12.out.ext ((Fl w12).drew)
          exact⟨HF.1.setPrev t ht n,HF.2.1,HF.2.2.setCell ⟨nb t,9,none⟩ _ (λ_=>⟨t,ht,rfl⟩)⟩⟩
        ·have hBb:decide (j=0\/WT<sj.cost t)=false:=decide_eq_false hB;rw[hBb];go_wp2_with fail
         go_roundg (nq2-(j+1))
         case measure=>omega
         case rel=>exact⟨j+1,by go_num,Om,Om,by
          rw[HRS.out];unfold relax
          have e1:¬ (decide (j=0)=true\/LT.wrap32 (LT.total D mode ns sj t n)<sj.cost t):=by
           rw[<- HTT.out,<- HWT.out];intro q;exact hB (q.imp (λe=>by simpa using e) id)
          rw[if_neg e1]
          exact HJ11⟩
       ·obtain rfl:j=nq2:=Om
        go_wp2_with fail
        go_roundg (ni-(x+1))
        case measure=>omega
        case rel=>exact⟨x+1,by go_num,Om,Om,by
         rw[HFJ.out];have hln:l.length=j:=by rw[HL.out,HQ.out.2.2]
         have e0:¬ LT.row ns (ns.getD t default).start=[]:=by
          rw[<- HB.out.1,<- HQ.out.1];intro e;have h1:=HQ.out.2.2;rw[e]at h1;exact hq00 h1
         unfold Wg;rw[if_neg e0,<- Zks,<- HB.out.1,<- HQ.out.1,<- HL.out,hln]
         exact HJ⟩
    ·obtain rfl:x=ni:=Om
     go_wp2_with fail
     go_roundg (R-(i+1))
     case measure=>omega
     case rel=>exact⟨i+1,by go_num,Om,Om,Om,by
      rw[Zcs _ _ _ _ hi1,<- Zit,<- HNI.out.1]
      exact HX⟩
  ·obtain rfl:i=R:=Om
   go_wp2_with fail
   go_end0
   exact⟨rfl,HF.out.1,HF.out.2.2⟩
end Go.Proofs.YtlfoalomaofejaaGreatDoor
