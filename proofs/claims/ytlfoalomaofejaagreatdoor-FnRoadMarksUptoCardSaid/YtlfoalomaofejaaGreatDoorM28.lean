/- lattice.Forward. -/
import Derived.Test.YtlfoalomaofejaaGreatDoorM24
set_option linter.all false
set_option maxRecDepth 100000
set_option maxHeartbeats 4000000
namespace Go.Proofs.YtlfoalomaofejaaGreatDoor
open Go.RowKit DT SS TR LT
structure Zce(d:Zg)(R:Nat)(x:Nd):Prop where
 start:x.start<R
 valid:Lib.validD x.surf.data.toList=true
 size:x.surf.size<=1000
 ids:x.cls≠3->(0<=x.m.rt/\x.m.rt<d.rows)/\(0<=x.m.lf/\x.m.lf<d.cols)
 wt:-32768<=x.m.wt/\x.m.wt<=32767
def FS(g R:Nat)(z:Nat->Value)(ns:List Nd)(h:Nat->Nat)(q:World)(st:St)(w:World):Prop :=
 Yp w g R z ns h st.cost st.prev/\Xs st/\Fr (λj=>∃ m,m<ns.length/\j=h m) q w
theorem FS.ext{g R:Nat}{z:Nat->Value}{ns:List Nd}{A:Nat->Nat}{q w w':World}{st:St}(h:FS g R z ns A q st w)(f:Zf w w'):FS g R z ns A q st w':=⟨h.1.ext f,h.2.1,h.2.2.ext f⟩
theorem FS.node{g R:Nat}{A:Nat->Value}{ns:List Nd}{q:Nat->Nat}{z w:World}{st:St}(h:FS g R A ns q z st w)(m:Nat)(G:m<ns.length)(j:Nat)(u:Value)(I:(Xm (ns.getD m default) (st.cost m) ((st.prev m).map q))[j]?=some u):w.cell? ⟨q m,j,none⟩=some u:=Zb (h.1.node m G) j u I
theorem Zbt(s:ByteArray)(h:s.size<=1000):0<=extra s/\extra s<=3000000:=by
 have:=Lib.runeCount_le s;unfold extra
 split
 ·omega
 ·split<;>omega
theorem Zhh{d:Zg}(hr:Zl d=true)(V:Option (List ByteArray)){L H U:Nat}{W:World}(hD:Zz d L H U W)(rt lf:Int)(h1:0<=rt/\rt<d.rows)(h2:0<=lf/\lf<d.cols) :
  Calls Tryz.prog 198 #[.pointer (some ⟨L,5,none⟩),.int .i64 rt,.int .i64 lf] W λe w'=>e=.returned (.int .i16 ((Z3 d V).conn rt lf))/\∃ q,w'=W.drewN q:=by
 obtain⟨Z,Y,X,_⟩:=Vb hr;obtain⟨A,rfl⟩:∃ A:Nat,rt=A:=⟨rt.toNat,Om⟩;obtain⟨z,rfl⟩:∃ z:Nat,lf=z:=⟨lf.toNat,Om⟩;obtain⟨h,K⟩:∃ h:Nat,d.rows=h:=⟨d.rows.toNat,Om⟩;obtain⟨I,M⟩:∃ I:Nat,d.cols=I:=⟨d.cols.toNat,Om⟩;rw[K]at Z X h1;rw[M]at Y X h2
 have G:d.costs.length=h*I:=by
  have:((h*I:Nat):Int)=(h:Int)*(I:Int):=Int.natCast_mul h I;omega
 have J:h*z+A<d.costs.length:=by
  rw[G];have:h*(z+1)<=h*I:=Nat.mul_le_mul_left h Om;rw[Nat.mul_add]at this;omega
 have aa:d.costs.length<=4096:=by
  rw[G];have:h*I<=64*64:=Nat.mul_le_mul Om Om;omega
 obtain⟨c5,hc⟩:=hD.conn;obtain⟨g,c,c7,ce⟩:=hc _ J
 have e:(Z3 d V).conn A z=d.costs[h*z+A]:=by
  show d.costs.getD (d.rows*(z:Int)+(A:Int)).toNat 0=_
  have e1:(d.rows*(z:Int)+(A:Int)).toNat=h*z+A:=by
   rw[K];have:((h*z:Nat):Int)=(h:Int)*(z:Int):=Int.natCast_mul h z;omega
  rw[e1,List.getD_eq_getElem?_getD,Ge J];rfl
 rw[e];exact Zn0 L 5 g 0 d.costs.length c h A z _ W (by rw[<- K];exact c5) c7 (by rw[Nat.zero_add];exact ce) J Om
theorem Zmg(d:Zg)(hr:Zl d=true)(uk:Option (List ByteArray))(kd H U kl g R c:Nat)(vs:Nat->Value)(ns:List Nd)(I:Nat->Nat)(z:Int)(w:World)(hl:w.cell? ⟨kl,2,none⟩=some (.slice (some ⟨g,0,none⟩) R c))(bi:w.cell? ⟨kl,3,none⟩=some (.pointer (some ⟨kd,0,none⟩)))(hD:Zz d kd H U w)
  (h:Yp w g R vs ns I (λ_=>0) (λ_=>none)) (hn:∀ x∈ns,Zce d R x) (a1:∀ m,m<ns.length->U<=I m/\I m≠kl) (hR:R<=1000000) (ed:1<=R) (d4:ns.length<=1000000000) :
  Calls Tryz.prog 160 #[.pointer (some ⟨kl,0,none⟩),.int .i64 z] w λe w'=>e=.returned (.tuple #[])/\Yp w' g R vs ns I (Vy (Z3 d uk) z ns R).cost (Vy (Z3 d uk) z ns R).prev/\Fr (λj=>∃ m,m<ns.length/\j=I m) w w':=by
 have mixed:Tryz.prog.follows .mixedOrders=true:=Kr
 obtain⟨D,bt⟩:∃ D,D=Z3 d uk:=⟨_,rfl⟩;rw[<- bt];have c8:=Hd bt;have b6:Hid (FS g R vs ns I w (Vy D z ns 1) (w.drewN 0)):=⟨h,λk=>⟨by show (-2147483648:Int)<=0;omega,by show (0:Int)<=2147483647;omega⟩,Fl _⟩
 have bf:Hid (∀ W,Fr (λj=>∃ m,m<ns.length/\j=I m) w W->W.cell? ⟨kl,2,none⟩=some (.slice (some ⟨g,0,none⟩) R c)/\W.cell? ⟨kl,3,none⟩=some (.pointer (some ⟨kd,0,none⟩))/\Zz d kd H U W):=λW f =>
  ⟨f.cell hl (by rintro⟨m,hm,e⟩;exact (a1 m hm).2 e.symm),f.cell bi (by rintro⟨m,hm,e⟩;exact (a1 m hm).2 e.symm),hD.keep f (by rintro b _ hb ⟨m,hm,e⟩;have:=(a1 m hm).1;omega)⟩
 have HN:=Hd hn;have Z:=lt_of_cell hl;clear bt h hn a1 hD bi;go_enter Tryz.func160,Tryz.ntmps160
 go_wp2_with fail
 go_quiet (fail)
 go_wp2_with fail
 have b4:Hid (FS g R vs ns I w (Vy D z ns 1) (w.drewN nq)):=⟨b6.out.1.ext ((Fl w).drewN nq),b6.out.2.1,(Fl w).drewN nq⟩;clear b6 hl Z;generalize w.drewN nq=w1 at b4⊢
 go_loopg [4] R (λg1 v4 wr=>∃ i:Nat,v4=.int .i64 (i:Int)/\1<=i/\i<=R/\R<=i+g1/\Hid (FS g R vs ns I w (Vy D z ns i) wr))
 case atStart=>exact⟨1,rfl,Om,Om,Om,b4⟩
 case round =>
  clear b4;obtain⟨i,rfl,dk,d9,ec,HF⟩:=hrel;by_cases aj:i<R
  ·have dy:(i:Int)<(R:Int):=Om;obtain⟨L,ah,hD⟩:=bf.out wr HF.out.2.2;obtain⟨Ai,ci,bw⟩:=Zm (HF.out.1.row i aj);have gi:=(HF.out.1.cell i aj).1;rw[bw]at gi;have Z:=lt_of_cell L;have lg:=lt_of_cell gi;obtain⟨ni,az⟩:∃ ni,ni=(LT.row ns i).length:=⟨_,rfl⟩;rw[<- az]at gi;have ad:=Hd (Ai1 az bw);have dz:(0:Int)<=(i:Int):=Om;have dx:ni<=ns.length:=by rw[az];unfold LT.row;exact Nt (List.length_filter_le _ _) (by simp)
   clear az bw hD ah;go_wp2_with fail
   go_loopg [33] ni (λg2 v33 wr=>∃ x:Nat,v33=.int .i64 (x:Int)/\x<=ni/\ni<=x+g2/\Hid (FS g R vs ns I w (Cm D z ns (Vy D z ns i) i x) wr))
   case atStart=>exact⟨0,rfl,Om,Om,HF⟩
   case round =>
    clear HF gi lg L Z;obtain⟨x,rfl,hx,eb,HX⟩:=hrel;by_cases dc:x<ni
    ·have d0:(x:Int)<(ni:Int):=Om;have ax:x<(LT.row ns i).length:=by rw[<- ad.out.1];exact dc
     obtain⟨gp,cp,b0,af⟩:=HX.out.1.getElem i aj x ax;rw[ad.out.2]at b0;simp only[Value.slice.injEq]at b0;obtain⟨rfl,_,rfl⟩:=b0;obtain⟨t,ap⟩:∃ t,t=(LT.row ns i)[x]:=⟨_,rfl⟩;rw[<- ap]at af;have ht:t<ns.length:=by rw[ap];exact (Vt (List.getElem_mem ax)).1
     have ca:Hid (Cm D z ns (Vy D z ns i) i (x+1)=Wl D z ns (Cm D z ns (Vy D z ns i) i x) t):=by
      show _=_;rw[ap];exact Zha D z ns _ i x ax
     obtain⟨st,cg⟩:∃ st,st=Cm D z ns (Vy D z ns i) i x:=⟨_,rfl⟩;rw[<- cg]at HX ca;obtain⟨J,bb⟩:∃ J,J=ns.getD t default:=⟨_,rfl⟩
     have cy:J∈ns:=by
      rw[bb,List.getD_eq_getElem?_getD,Ge ht];exact List.getElem_mem ht
     have X:=HN.out J cy;have HB:=Hd (Ai1 bb X);have bn:=HX.out.node t ht 2 (.int .i64 J.start) (by rw[bb];rfl);obtain⟨q,hq⟩:∃ q,q=J.start:=⟨_,rfl⟩;have aq:q<R:=by rw[hq];exact X.start
     rw[<- hq]at bn;obtain⟨Aq,cq,bv⟩:=Zm (HX.out.1.row q aq);have gq:=(HX.out.1.cell q aq).1;rw[bv]at gq;obtain⟨A,ay⟩:∃ A,A=(LT.row ns q).length:=⟨_,rfl⟩;rw[<- ay]at gq;have gi:=(HX.out.1.cell i aj).1;rw[ad.out.2,<- ad.out.1]at gi;have HQ:=Hd (Ai1 hq (Ai1 bv ay));obtain⟨L,ah,_⟩:=bf.out wr HX.out.2.2;have dw:A<=ns.length:=by rw[ay];unfold LT.row;exact Nt (List.length_filter_le _ _) (by simp)
     have Z:=lt_of_cell L;have bl:=lt_of_cell af;have lg:=lt_of_cell gi;have bj:=lt_of_cell bn;have d2:(q:Int)<(R:Int):=Om;have d3:(0:Int)<=(q:Int):=Om;have d1:(0:Int)<=(x:Int):=Om;have dr:=Hd ap;clear ap cg bb cy X hq bv ay ah;go_upto_region 7 with fail
     go_quiet (fail)
     have ag:=Hd (HX.out.ext ((Fl wr).drewN nq));have X2:Zf wr (wr.drewN nq):=(Fl wr).drewN nq;have L:=X2.cell L id;have gi:=X2.cell gi id;have af:=X2.cell af id;have aa:=ag.out.1.node t ht;have n4:(wr.drewN nq).cell? ⟨I t,4,none⟩=some (.int .i32 (st.cost t)):=Zb aa 4 _ rfl;have fz:=Zi aa;have Z:=lt_of_cell L;have bl:=lt_of_cell af;have lg:=lt_of_cell gi;have bj:=lt_of_cell n4;clear aa X2 HX bn gq;generalize wr.drewN nq=w2 at ag L gi af n4 fz Z bl lg bj⊢;by_cases bg:A=0
     ·subst bg;go_wp2_with fail
      go_roundg (ni-(x+1))
      case measure=>omega
      case rel=>exact⟨x+1,by go_num,Om,Om,by
       rw[ca.out]
       have e0:LT.row ns (ns.getD t default).start=[]:=by
        rw[<- HB.out.1,<- HQ.out.1];exact List.eq_nil_of_length_eq_zero HQ.out.2.2.symm
       unfold Wl;rw[if_pos e0]
       exact⟨ag.out.1.setCost t ht Vq,ag.out.2.1.up t Vq _ (by unfold Vq;omega),ag.out.2.2.setCell ⟨I t,4,none⟩ _ (λ_=>⟨t,ht,rfl⟩)⟩⟩
     ·have dg:¬ (A:Int)=0:=Om;clear gi af n4 fz Z bl lg bj L;go_wp2_with fail
      obtain⟨l,cl⟩:∃ l,l=LT.row ns q:=⟨_,rfl⟩;have HL:=Hd cl
      go_loopg [65] A (λg3 c9 wr=>∃ j:Nat,c9=.int .i64 (j:Int)/\j<=A/\A<=j+g3/\Hid (FS g R vs ns I w (rel D z ns t st l j) wr))
      case atStart=>exact⟨0,rfl,Om,Om,by rw[Zis];exact ag⟩
      case round =>
       clear ag cl;obtain⟨j,rfl,hj,ea,HJ⟩:=hrel;by_cases dj:j<A
       ·have d6:(j:Int)<(A:Int):=Om;have bq:l=LT.row ns q:=HL.out;have a7:j<(LT.row ns q).length:=by rw[<- HQ.out.2.2];exact dj
        obtain⟨gr,cr,bz,bx⟩:=HJ.out.1.getElem q aq j a7;rw[HQ.out.2.1]at bz;simp only[Value.slice.injEq]at bz;obtain⟨rfl,_,rfl⟩:=bz;obtain⟨n,ar⟩:∃ n,n=(LT.row ns q)[j]:=⟨_,rfl⟩;rw[<- ar]at bx;have ai:n<ns.length:=by rw[ar];exact (Vt (List.getElem_mem a7)).1
        have b8:Hid (rel D z ns t st l (j+1)=relax D z ns t (rel D z ns t st l j) (decide (j=0)) n):=by
         show _=_;have cm:j<l.length:=by rw[bq];exact a7
         rw[Zit _ _ _ _ _ _ _ cm,ar];congr 1;subst bq;rfl
        obtain⟨V,cj⟩:∃ V,V=rel D z ns t st l j:=⟨_,rfl⟩;rw[<- cj]at HJ b8;obtain⟨M,ak⟩:∃ M,M=ns.getD n default:=⟨_,rfl⟩
        have cz:M∈ns:=by
         rw[ak,List.getD_eq_getElem?_getD,Ge ai];exact List.getElem_mem ai
        have Y:=HN.out M cz;have X:=HB.out.2;have HA:=Hd (Ai1 ak Y);have ds:=Hd ar;have a3:=HJ.out.node n ai 3 (.int .i64 M.cls) (by rw[ak];rfl);have a4:=HJ.out.node n ai 4 (.int .i32 (V.cost n)) rfl;have a6:=HJ.out.node n ai 6 (.int .i32 M.m.rt) (by rw[ak];rfl);have a8:=HJ.out.node n ai 8 (.string M.surf) (by rw[ak];rfl);have b3:=HJ.out.node t ht 3 (.int .i64 J.cls) (by rw[HB.out.1];rfl);have b5:=HJ.out.node t ht 5 (.int .i32 J.m.lf) (by rw[HB.out.1];rfl);have b7:=HJ.out.node t ht 7 (.int .i32 J.m.wt) (by rw[HB.out.1];rfl);have ao:=lt_of_cell a3;have bk:=lt_of_cell b3;have db:=lt_of_cell bx;have d8:(0:Int)<=(j:Int):=Om;obtain⟨L,ah,c0⟩:=bf.out wr HJ.out.2.2;have Z:=lt_of_cell ah;have dl:=HJ.out.2.1 n;obtain⟨cv,ab⟩:∃ cv,cv=(if M.cls≠3/\J.cls≠3 then D.conn M.m.rt J.m.lf else 0):=⟨_,rfl⟩;clear cj ak cz ar bq;go_upto_region 13 with fail
        go_cut [12] from 70 to 70 (λv12 wx=>v12=.int .i16 0/\wr=wx)
        case first =>
         go_wp2_with fail
         go_meet
         case rel=>exact⟨rfl,rfl⟩
        case rest =>
        obtain⟨rfl,e5⟩:=hcut;subst e5;go_step;refine wp_seq_k λK hK=>?_
        go_cut [12] from 71 to 98 (λv12 wx=>v12=.int .i16 cv/\∃ q,wx=wr.drewN q)
        case first =>
         by_cases cx:M.cls=3
         ·have dm:((M.cls:Int) != 3)=false:=by simp;omega
          have b1:cv=0:=(by rw[ab,if_neg Om]);clear ab;go_wp2_with fail
          go_meet
          case rel=>exact⟨by rw[b1],0,rfl⟩
         ·have dm:((M.cls:Int) != 3)=true:=by simp;omega
          by_cases cw:J.cls=3
          ·have cu:((J.cls:Int) != 3)=false:=by simp;omega
           have b1:cv=0:=(by rw[ab,if_neg Om]);clear ab;go_wp2_with fail
           go_meet
           case rel=>exact⟨by rw[b1],0,rfl⟩
          ·have cu:((J.cls:Int) != 3)=true:=by simp;omega
           have cf:=Y.ids cx;have ce:=X.ids cw;have co:=Vb hr
           have CQ:Hid (∀ q,Calls Tryz.prog 198 #[.pointer (some ⟨kd,5,none⟩),.int .i64 M.m.rt,.int .i64 J.m.lf] (wr.drewN q) λe w'=>e=.returned (.int .i16 cv)/\∃ m,w'=(wr.drewN q).drewN m):=λq=>by
            have:=Zhh hr uk (c0.keep ((Fe wr).drewN q) (λ_ _ _=>id)) M.m.rt J.m.lf cf.1 ce.2;rw[ab,if_pos ⟨cx,cw⟩,c8.out];exact this
           have w1:IntKind.i64.wrap M.m.rt=M.m.rt:=by rw[IntKind.wrap_i64];omega
           have w2:IntKind.i64.wrap J.m.lf=J.m.lf:=by rw[IntKind.wrap_i64];omega
           clear ab cf ce co;go_upto_region 15 with fail
           go_quiet ((go_at_call 198;exact Calls.quiet_of (CQ.out _)))
           go_wp2_with fail
           go_meet
           case rel=>exact⟨rfl,_,rfl⟩
        case rest =>
        obtain⟨rfl,q9,e5⟩:=hcut
        have ct:-32768<=cv/\cv<=32767:=by
         rw[ab]
         split
         next hc =>
          rw[c8.out];show -32768<=d.costs.getD _ 0/\d.costs.getD _ 0<=32767;rw[List.getD_eq_getElem?_getD]
          cases hq:d.costs[(d.rows*J.m.lf+M.m.rt).toNat]? with
          | none=>exact⟨by simp,by simp⟩
          | some y=>exact Ie hr y (List.mem_of_getElem? hq)
         next=>omega
        have du:=Hd ab;have X9:Zf wr wc:=by rw[e5];exact (Fl wr).drewN q9
        have b9:=Hd (HJ.out.ext X9);have a4:=X9.cell a4 id;have a8:=X9.cell a8 id;have b7:=X9.cell b7 id;have ao:=lt_of_cell a4;have bk:=lt_of_cell b7;clear e5 X9 ab HJ L ah c0 Z a3 a6 b3 b5 bx db;go_step;refine wp_seq_k λK hK=>?_
        generalize wc=w9 at b9 a4 a8 b7 ao bk⊢;have df:=X.wt;obtain⟨sm,bm⟩:∃ sm,sm=cv+J.m.wt+V.cost n:=⟨_,rfl⟩;have c7:=Hd bm
        go_cut [13] from 99 to 112 (λam wx=>am=.int .i64 sm/\∃ q,wx=w9.drewN q)
        case first =>
         have y1:IntKind.i64.wrap cv=cv:=by rw[IntKind.wrap_i64];omega
         have y2:IntKind.i64.wrap J.m.wt=J.m.wt:=by rw[IntKind.wrap_i64];omega
         have y3:IntKind.i64.wrap (V.cost n)=V.cost n:=by rw[IntKind.wrap_i64];omega
         have y4:IntKind.i64.wrap (cv+J.m.wt)=cv+J.m.wt:=by rw[IntKind.wrap_i64];omega
         have y5:IntKind.i64.wrap (cv+J.m.wt+V.cost n)=cv+J.m.wt+V.cost n:=by rw[IntKind.wrap_i64];omega
         clear bm;go_wp2_with fail
         go_quiet (fail)
         go_wp2_with fail
         go_meet
         case rel=>exact⟨by rw[c7.out],_,rfl⟩
        case rest =>
        obtain⟨rfl,q9,e5⟩:=hcut;have X9:Zf w9 wc:=by rw[e5];exact (Fl w9).drewN q9
        have av:=Hd (b9.out.ext X9);have a8:=X9.cell a8 id;have ao:=lt_of_cell a8;have ch:-2147549185<=sm/\sm<=2147549183:=Om;clear e5 X9 b9 a4 b7 bk bm dl ct df;go_step;refine wp_seq_k λK hK=>?_
        generalize wc=cb at av a8 ao⊢;obtain⟨s2,ck⟩:∃ s2,s2=sm+(if z≠1 then extra M.surf else 0):=⟨_,rfl⟩;have be:=Hd ck;clear ck
        go_cut [13] from 113 to 118 (λam wx=>am=.int .i64 s2/\Hid (Zf cb wx))
        case first =>
         by_cases bo:z=1
         ·subst bo;go_wp2_with fail
          go_meet
          case rel=>exact⟨by rw[be.out,if_neg (by simp),Int.add_zero],Fl _⟩
         ·have d5:(z != 1)=true:=(by simp[bo]);have CA:=Zb9 (I n) M.surf cb a8 (by have:=Y.size;omega) Y.valid;have cn:=Zbt M.surf Y.size;obtain⟨ex,au⟩:∃ ex,ex=extra M.surf:=⟨_,rfl⟩;rw[<- au]at CA cn;have y1:IntKind.i64.wrap (sm+ex)=sm+ex:=by rw[IntKind.wrap_i64];omega
          have dt:=Hd au;clear au;go_wp2_with (first|(go_at_call 199;refine CA.mono ?_;rintro e6 w6 ⟨rfl,hx⟩;have bc:=Hd hx;clear hx)|fail)
          go_meet
          case rel=>exact⟨by rw[be.out,if_pos bo,dt.out],bc⟩
        case rest =>
        obtain⟨rfl,bc⟩:=hcut;have G:=Hd (av.out.ext bc.out)
        have dv:s2<=3000000000:=by
         have cn:=Zbt M.surf Y.size;rw[be.out]
         split<;>omega
        clear bc av a8 ao ch;go_step;refine wp_seq_k λK hK=>?_
        generalize wc=al at G⊢;obtain⟨T,hT⟩:∃ T,T=(if Vq<s2 then Vq else s2):=⟨_,rfl⟩;have HT:=Hd hT;clear hT
        go_cut [13] from 119 to 120 (λam wx=>am=.int .i64 T/\al=wx)
        case first =>
         by_cases dh:2147483647<s2
         ·go_wp2_with fail
          go_meet
          case rel=>exact⟨by rw[HT.out,if_pos (show Vq<s2 from dh)];rfl,rfl⟩
         ·go_wp2_with fail
          go_meet
          case rel=>exact⟨by rw[HT.out,if_neg (show ¬ Vq<s2 by unfold Vq;omega)],rfl⟩
        case rest =>
        obtain⟨rfl,e5⟩:=hcut;subst e5
        have b2:Hid (T=LT.total D z ns V t n):=by
         show T=_;unfold LT.total;simp only;rw[HT.out,be.out,c7.out,du.out,HA.out.1,HB.out.1]
        go_step;refine wp_seq_k λK hK=>?_
        obtain⟨WT,bs⟩:∃ WT,WT=LT.wrap32 T:=⟨_,rfl⟩;have de:IntKind.i32.wrap T=WT:=by rw[bs];rfl
        have bd:=Hd bs
        have aw:Hid (∀ W cd,FS g R vs ns I w cd W->W.cell? ⟨kl,2,none⟩=some (.slice (some ⟨g,0,none⟩) R c)/\W.cell? ⟨g,i,none⟩=some (.slice (some ⟨gp,0,none⟩) ni ci)/\W.cell? ⟨gp,x,none⟩=some (.pointer (some ⟨I t,0,none⟩))/\W.cell? ⟨I t,2,none⟩=some (.int .i64 q)/\W.cell? ⟨g,q,none⟩=some (.slice (some ⟨gr,0,none⟩) A cq)/\W.cell? ⟨gr,j,none⟩=some (.pointer (some ⟨I n,0,none⟩))):=λW cd hW=>by
         obtain⟨k2,_,_⟩:=bf.out W hW.2.2;have z1:=(hW.1.cell i aj).1;rw[ad.out.2,<- ad.out.1]at z1;obtain⟨ef,ei,e1,z2⟩:=hW.1.getElem i aj x ax;rw[ad.out.2]at e1;simp only[Value.slice.injEq,Option.some.injEq,Addr.mk.injEq]at e1;have z4:=(hW.1.cell q aq).1;rw[HQ.out.2.1,<- HQ.out.2.2]at z4;obtain⟨ee,eh,e2,z5⟩:=hW.1.getElem q aq j a7;rw[HQ.out.2.1]at e2;simp only[Value.slice.injEq,Option.some.injEq,Addr.mk.injEq]at e2;rw[<- e1.1.1,<- dr.out]at z2;rw[<- e2.1.1,<- ds.out]at z5;exact⟨k2,z1,z2,hW.node t ht 2 _ (by rw[HQ.out.1,HB.out.1];rfl),z4,z5⟩
        obtain⟨c1,c2,c3,c4,c5,c6⟩:=aw.out al V G.out;have dq:=G.out.node t ht 4 (.int .i32 (V.cost t)) rfl;have l1:=lt_of_cell c1;have l2:=lt_of_cell c2;have l3:=lt_of_cell c3;have l4:=lt_of_cell c4;clear bs c4 c5 c6
        go_cut [140] from 121 to 140 (λcc wx=>cc=.bool (decide (j=0\/WT<V.cost t))/\al=wx)
        case first =>
         by_cases bh:j=0
         ·subst bh;go_wp2_with fail
          go_meet
          case rel=>exact⟨by simp,rfl⟩
         ·have d7:((j:Int)==0)=false:=by simp;omega
          go_wp2_with fail
          go_meet
          case rel=>exact⟨by simp[bh],rfl⟩
        case rest =>
        obtain⟨rfl,e5⟩:=hcut;subst e5;go_step;by_cases hB:j=0\/WT<V.cost t
        ·have bu:decide (j=0\/WT<V.cost t)=true:=decide_eq_true hB;rw[bu];have aa:=G.out.1.node t ht;have fz:=Zi aa;clear aa;go_upto_region 23 with fail
         have ae:Hid (FS g R vs ns I w ⟨Oj V.cost t WT,V.prev⟩ (al.setCell ⟨I t,4,none⟩ (.int .i32 WT))):=⟨G.out.1.setCost t ht WT,G.out.2.1.up t WT _ (by rw[bd.out];exact wrap32_in T),G.out.2.2.setCell ⟨I t,4,none⟩ _ (λ_=>⟨t,ht,rfl⟩)⟩;clear c1 c2 c3 dq l1 l2 l3 l4 fz G;generalize al.setCell _ _=ac at ae⊢;obtain⟨c1,c2,c3,c4,c5,c6⟩:=aw.out ac _ ae.out;have eg:=ae.out.node t ht 9 _ rfl;have aa:=ae.out.1.node t ht;have fz:=Zi aa;have l1:=lt_of_cell c1;have l2:=lt_of_cell c2;have l3:=lt_of_cell c3;have l4:=lt_of_cell c4;have l6:=lt_of_cell c6;clear aa;have dp:ac.drew.cell? ⟨kl,2,none⟩=some (.slice (some ⟨g,0,none⟩) R c)/\ac.drew.cell? ⟨g,i,none⟩=some (.slice (some ⟨gp,0,none⟩) ni ci)/\ac.drew.cell? ⟨gp,x,none⟩=some (.pointer (some ⟨I t,0,none⟩))/\ac.drew.cell? ⟨I t,2,none⟩=some (.int .i64 q)/\ac.drew.cell? ⟨g,q,none⟩=some (.slice (some ⟨gr,0,none⟩) A cq)/\ac.drew.cell? ⟨gr,j,none⟩=some (.pointer (some ⟨I n,0,none⟩)):=⟨c1,c2,c3,c4,c5,c6⟩;refine Ye 25 26 #[false,false,false,false,false,false,false,false,false,false,false,false,false,false,false,false,false,false,false,false,false,false,false,false,false,false] (λW=>W.cell? ⟨kl,2,none⟩=some (.slice (some ⟨g,0,none⟩) R c)/\W.cell? ⟨g,i,none⟩=some (.slice (some ⟨gp,0,none⟩) ni ci)/\W.cell? ⟨gp,x,none⟩=some (.pointer (some ⟨I t,0,none⟩))/\W.cell? ⟨I t,2,none⟩=some (.int .i64 q)/\W.cell? ⟨g,q,none⟩=some (.slice (some ⟨gr,0,none⟩) A cq)/\W.cell? ⟨gr,j,none⟩=some (.pointer (some ⟨I n,0,none⟩))) mixed rfl rfl (dp) (λhS=>?_);refine WL.go [(0,155),(1,156),(2,157),(3,158),(4,159),(5,160),(6,161),(7,162),(8,163),(9,164),(10,165),(11,166),(12,167),(13,168),(14,169),(15,170),(16,171),(17,172),(18,173),(19,174),(20,175),(21,176),(22,177),(23,178),(24,179)] ?_;iterate 25 (refine WL.tk (v:=?_) rfl rfl Kr (λ_ _ _ h=>h) (Or.inl ⟨Rf,?_⟩) (by assumption) ?_;rotate_left;(focus (intro w dn;(try obtain⟨s0,s1,s2,s3,s4,s5⟩:=dn);go_simp;(try with_reducible rfl)));simp only[Act.put,Sa,Sb1,Sc])
         refine WZ.last rfl Kr Kr (λK hK=>?_);go_simp;refine hK.out _ _ ?_;clear hK K;go_wp2_with fail
         go_roundg (A-(j+1))
         case measure=>omega
         case rel=>exact⟨j+1,by go_num,Om,Om,by
          rw[b8.out];unfold relax
          have e1:(decide (j=0)=true\/LT.wrap32 (LT.total D z ns V t n)<V.cost t):=by
           rw[<- b2.out,<- bd.out];exact hB.imp (λe=>by simp[e]) id
          rw[if_pos e1,<- b2.out,<- bd.out];have HF:=ae.out.ext ((Fl ac).drew)
          exact⟨HF.1.setPrev t ht n,HF.2.1,HF.2.2.setCell ⟨I t,9,none⟩ _ (λ_=>⟨t,ht,rfl⟩)⟩⟩
        ·have bu:decide (j=0\/WT<V.cost t)=false:=decide_eq_false hB;rw[bu];go_wp2_with fail
         go_roundg (A-(j+1))
         case measure=>omega
         case rel=>exact⟨j+1,by go_num,Om,Om,by
          rw[b8.out];unfold relax
          have e1:¬ (decide (j=0)=true\/LT.wrap32 (LT.total D z ns V t n)<V.cost t):=by
           rw[<- b2.out,<- bd.out];intro q;exact hB (q.imp (λe=>by simpa using e) id)
          rw[if_neg e1]
          exact G⟩
       ·obtain rfl:j=A:=Om
        go_wp2_with fail
        go_roundg (ni-(x+1))
        case measure=>omega
        case rel=>exact⟨x+1,by go_num,Om,Om,by
         rw[ca.out];have di:l.length=j:=by rw[HL.out,HQ.out.2.2]
         have e0:¬ LT.row ns (ns.getD t default).start=[]:=by
          rw[<- HB.out.1,<- HQ.out.1];intro e;have h1:=HQ.out.2.2;rw[e]at h1;exact bg h1
         unfold Wl;rw[if_neg e0,<- Zlq,<- HB.out.1,<- HQ.out.1,<- HL.out,di]
         exact HJ⟩
    ·obtain rfl:x=ni:=Om
     go_wp2_with fail
     go_roundg (R-(i+1))
     case measure=>omega
     case rel=>exact⟨i+1,by go_num,Om,Om,Om,by
      rw[Zdo _ _ _ _ dk,<- Zjz,<- ad.out.1]
      exact HX⟩
  ·obtain rfl:i=R:=Om
   go_wp2_with fail
   go_end0
   exact⟨rfl,HF.out.1,HF.out.2.2⟩
end Go.Proofs.YtlfoalomaofejaaGreatDoor
