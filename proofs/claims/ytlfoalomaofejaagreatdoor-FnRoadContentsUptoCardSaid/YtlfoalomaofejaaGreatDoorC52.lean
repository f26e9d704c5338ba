/- laws.FnRoadContents: the walk. -/
import Derived.Test.YtlfoalomaofejaaGreatDoorC45
import Derived.Test.YtlfoalomaofejaaGreatDoorC50
import Derived.Test.YtlfoalomaofejaaGreatDoorC51
set_option linter.all false
set_option maxRecDepth 100000
set_option maxHeartbeats 4000000
namespace Go.Proofs.YtlfoalomaofejaaGreatDoor
open Go.RowKit Go.Shelf DT SS TR LT SP
theorem Zfz:Pq Tryz.prog 34 1 24:=Qg Kr
theorem Zlc{w:World}{O:Nat->Prop}{x:GWord}{cs:List Value}(h:tWord.R w O x cs):∃ rest,cs=Xp x::rest:=by
 obtain⟨p,q,rfl,_⟩:=Ua h;exact⟨_,rfl⟩
theorem Zcu(d:Zg)(cs:List Value)(O:Nat->Prop)(s:ByteArray)(mode:Int)(w:World)(h:tDict.R w O d cs)(hs:s.size<=9223372036854775807)(hT:Tbs w)(hb:∀ u∈d.user,total u.tokens<=1048576/\total u.yomi<=1048576) :
  Calls Tryz.prog 5 #[.agg cs.toArray,.string s,.int .i64 mode] w λe w'=>e=.returned (.bool true)/\Zf w w':=by
 have mixed:Tryz.prog.follows .mixedOrders=true:=Kr
 have h:=tDict.mono (O':=λ_=>True) (λ_ _ _=>trivial) h;have H:=Hd (Ai1 h hT);have CF:=Hd (λW (f:Zf w W)=>Fp W _ d cs (tDict.ext h f));obtain⟨A1,c1,A2,c2,A3,c3,A4,c4,A5,c5,A6,c6,A7,c7,A8,c8,rfl,h1,_⟩:=Yy h;have HW1:=Hd h1;clear h hT h1;have B0:=alloc_at w (.cells #[.slice A1 d.words.length c1,.int .i64 d.rows,.int .i64 d.cols,.slice A2 d.costs.length c2,.slice A3 d.classes.length c3,.slice A4 d.chars.length c4,.slice A5 d.unknown.length c5,.slice A6 d.meta0.length c6,.slice A7 d.unkMeta.length c7,.bool d.hasUser,.slice A8 d.user.length c8] 30);have HB:=Hd B0;clear B0
 cases hf:Yl d with
 | false =>
  rw[hf]at CF;clear hf;go_enter Tryz.func5,Tryz.ntmps5
  go_wp2_with (first
   | (go_at_call 8;refine (CF.out _ ((Fl w).alloc _)).mono ?_;rintro e w1 ⟨rfl,hx⟩;have HX:=Hd hx;clear hx)
   | fail)
  go_ret;exact⟨rfl,((Fl w).alloc _).then HX.out⟩
 | true =>
  rw[hf]at CF;by_cases hl:s.size<=2147483647
  ·have CG:=Hd (λW (f:Zf w W) A c (ha:Ty.str.At W (λ_=>True) A [s])=>Zi2 W _ (λ_=>True) d _ A c [s] (tDict.ext H.out.1 f) hf (H.out.2.ext f).u8 ha)
   have hnw:d.words.length<=2147483647:=by
    have:=hf;unfold Yl at this;simp only[Bool.and_eq_true]at this;simpa [Yi] using this.1.1
   have HF:=Hd hf;clear hf;go_enter Tryz.func5,Tryz.ntmps5
   go_upto_region 3 with (first
    | (go_at_call 8;refine (CF.out _ ((Fl w).alloc _)).mono ?_;rintro e w1 ⟨rfl,hx⟩;have HX:=Hd hx;clear hx)
    | fail)
   have k0:∀ (W:World),Zf w1 W->∀ j u,(#[Value.slice A1 d.words.length c1,.int .i64 d.rows,.int .i64 d.cols,.slice A2 d.costs.length c2,.slice A3 d.classes.length c3,.slice A4 d.chars.length c4,.slice A5 d.unknown.length c5,.slice A6 d.meta0.length c6,.slice A7 d.unkMeta.length c7,.bool d.hasUser,.slice A8 d.user.length c8])[j]?=some u->W.cell? ⟨w.heap.size,j,none⟩=some u:=λW f j u hj=>Zb (f.heap (HX.out.heap HB.out id) id) j u hj
   have KC:Hid (∀ (W:World),Zf w1 W->W.cell? ⟨w.heap.size,0,none⟩=some (.slice A1 d.words.length c1)/\W.cell? ⟨w.heap.size,1,none⟩=some (.int .i64 d.rows)/\W.cell? ⟨w.heap.size,2,none⟩=some (.int .i64 d.cols)/\W.cell? ⟨w.heap.size,3,none⟩=some (.slice A2 d.costs.length c2)/\W.cell? ⟨w.heap.size,4,none⟩=some (.slice A3 d.classes.length c3)/\W.cell? ⟨w.heap.size,5,none⟩=some (.slice A4 d.chars.length c4)/\W.cell? ⟨w.heap.size,6,none⟩=some (.slice A5 d.unknown.length c5)/\W.cell? ⟨w.heap.size,7,none⟩=some (.slice A6 d.meta0.length c6)/\W.cell? ⟨w.heap.size,8,none⟩=some (.slice A7 d.unkMeta.length c7)/\W.cell? ⟨w.heap.size,9,none⟩=some (.bool d.hasUser)/\W.cell? ⟨w.heap.size,10,none⟩=some (.slice A8 d.user.length c8)/\w.heap.size<W.heap.size):=λW f =>
    ⟨k0 W f 0 _ rfl,k0 W f 1 _ rfl,k0 W f 2 _ rfl,k0 W f 3 _ rfl,k0 W f 4 _ rfl,k0 W f 5 _ rfl,k0 W f 6 _ rfl,k0 W f 7 _ rfl,k0 W f 8 _ rfl,k0 W f 9 _ rfl,k0 W f 10 _ rfl,lt_of_cell (k0 W f 0 _ rfl)⟩
   have HX1:=Hd (((Fe w).alloc _).then HX.out);obtain⟨q0,_,_,_,_,_,_,_,_,_,_,ql⟩:=KC.out w1 (Fl w1);clear k0 HX HB CF;go_wp2_with fail
   go_loopg [7,31] d.words.length (λg1 v7 v31 wr=>∃ (i:Nat) (u:Value),v7=u/\v31=.int .i64 (i:Int)/\i<=d.words.length/\d.words.length<=i+g1/\Hid (RowK strs 34 u ((d.words.take i).map (λx=>x.contents)) 0 wr/\(∀ j,u.ownBlock=some j->w1.heap.size<=j)/\Zf w1 wr))
   case atStart=>exact⟨0,_,rfl,rfl,Om,Om,RowK.nil _,(λj e=>by cases e),Fl _⟩
   case round =>
    obtain⟨i,u,rfl,rfl,hi,hg,HR⟩:=hrel;by_cases hlt:i<d.words.length
    ·have hlz:(i:Int)<(d.words.length:Int):=Om;have hz0:(0:Int)<=(i:Int):=Om;obtain⟨b,o,p,q,rfl,_,hbl,⟨Ap,cp,ep,_,_,_⟩,hcon,hsz,e0,e1,e2,e3,e4,e5⟩:=Nf HW1.out.2.2 i hlt;cases ep;have HC:=Hd (strs.mono (O':=λk=>k<w.heap.size) (λk hk _=>hk) hcon);obtain⟨Aq,cq,eq,_⟩:=hcon;cases eq;have XX:=HX1.out.then HR.out.2.2;have q0:=XX.cell e0 id;have q1:=XX.cell e1 id;have q2:=XX.cell e2 id;have q3:=XX.cell e3 id;have q4:=XX.cell e4 id;have q5:=XX.cell e5 id;have HXX:=Hd XX
     have HT:Hid ((d.words.take (i+1)).map (λx=>x.contents)=(d.words.take i).map (λx=>x.contents)++[d.words[i].contents]):=by
      show _=_;rw[List.take_succ_eq_append_getElem hlt,List.map_append];rfl
     have hwr:w1.heap.size<=wr.heap.size:=HR.out.2.2.size;clear XX e0 e1 e2 e3 e4 e5;generalize d.words[i]=x at *
     go_wp2_with (first
      | (at_builtin;refine RowK.lst (d:=strs) (v:=u7) rfl _ _ 38 rfl x.contents [.slice Aq x.contents.length cq] 24 ⟨wr.heap.size+1,0,none⟩ Tryz.underlying38 Zfz (by decide) Om rfl rfl ((HR.out.1.ext ((Fl wr).alloc _)).ext ((Fl _).alloc _)) (by rw[List.length_map,List.length_take];omega) (Nat.zero_le _) (Ea _ _ _ _) (strs.mono (λk _ hk=>⟨Nat.zero_le _,λe=>by have:=HR.out.2.1 k e;have:=HX1.out.size;omega⟩) (strs.ext HC.out ((HXX.out.alloc _).alloc _))) ?_;intro v' w6 hR6 hf6 ha6;have H6:=Hd (Ai1 hR6 (Ai1 hf6 ha6));clear hR6 hf6 ha6)
      | fail)
     go_roundg (d.words.length-(i+1))
     case measure=>omega
     case rel =>
      refine⟨i+1,v',rfl,by go_num,Om,Om,by rw[HT.out];exact H6.out.1,λj e=>?_,((HR.out.2.2.alloc _).alloc _).trans H6.out.2.1 (λk hk e=>by have:=HR.out.2.1 k e;omega)⟩;rcases H6.out.2.2 with q|q
      ·rw[q]at e;exact HR.out.2.1 j e
      ·rw[q]at e;have e:=Option.some.inj e;rw[Za,Za]at e;omega
    ·obtain rfl:i=d.words.length:=Om
     have hRK:=HR.out.1;rw[List.take_length]at hRK;obtain⟨ls,hls⟩:∃ ls,ls=d.words.map (λx=>x.contents):=⟨_,rfl⟩;rw[<- hls]at hRK;have hll:ls.length=d.words.length:=(by rw[hls,List.length_map]);obtain⟨Al,cl,el⟩:=hRK.own;have hsl:=hRK.slice;subst el
     have hat:strs.At wr (λ_=>True) Al ls:=by
      obtain⟨A',c',e,_,_,ha⟩:=hsl;cases e;exact Ku (λ_ _ _=>trivial) ha
     have HAl:=Hd hat;have HLS:=Hd hls;have HLL:=Hd hll;have HX2:=Hd (HX1.out.then HR.out.2.2);have HXR:=Hd HR.out.2.2;clear hRK hsl hat hls hll hlt hi hg HR q0 ql;obtain⟨q0,q1,q2,q3,q4,q5,q6,q7,q8,q9,q10,ql⟩:=KC.out wr HXR.out
     cases hfi:Sq d [s] with
     | false =>
      rw[hfi]at CG;clear hfi
      go_wp2_with (first
       | (go_at_call 9;refine (CG.out _ (HX2.out.alloc _) _ _ (Pa wr s hs)).mono ?_;rintro e w2 ⟨rfl,hx⟩;have HY2:=Hd ((HX2.out.alloc _).then hx);clear hx)
       | (go_at_call 21;refine (Pz _).mono ?_;rintro e w3 ⟨rfl,hx⟩;have HY3:=Hd (HY2.out.then hx);clear hx)
       | fail)
      go_ret;exact⟨rfl,HY3.out⟩
     | true =>
      rw[hfi]at CG;obtain⟨⟨hrd,hsz⟩,hr,hd,hu,-⟩:=Zd9 hfi HF.out
      have hwt:((d.words.map (·.contents)).map total).sum<=1000000/\d.words.length<=60:=Cu (by
       unfold Sq at hfi;simp only[Bool.and_eq_true]at hfi
       exact hfi.2.2.2.1)
      have CC:=Hd (λW (f:Zf wr W)=>Zba (c:=cl) (Z3 HAl.out f) (by have:=hwt.1;rw[<- HLS.out]at this;omega))
      cases hco:Io ls with
      | false =>
       rw[hco]at CC;clear hfi hrd hsz hr hd hu hwt hco
       go_wp2_with (first
        | (go_at_call 9;refine (CG.out _ (HX2.out.alloc _) _ _ (Pa wr s hs)).mono ?_;rintro e w2 ⟨rfl,hx⟩;have HY2:=Hd (((Fe wr).alloc _).then hx);clear hx CG)
        | (go_at_call 11;refine (CC.out _ HY2.out).mono ?_;rintro e w3 ⟨rfl,hx⟩;have HY3:=Hd (HY2.out.then hx);clear hx CC)
        | (go_at_call 21;refine (Pz _).mono ?_;rintro e w4 ⟨rfl,hx⟩;have HY4:=Hd (HY3.out.then hx);clear hx)
        | fail)
       go_ret;exact⟨rfl,HX2.out.then HY4.out⟩
      | true =>
       rw[hco]at CC;obtain⟨hfit,hrows⟩:=Zgf hco;have h2:=hfit.two;obtain⟨m,hm⟩:∃ m,m=ls.length-1:=⟨_,rfl⟩;have hml:m<ls.length:=Om;have hmz:(m:Int)<(ls.length:Int):=Om;have hm0:(0:Int)<=(m:Int):=Om;have hwr:IntKind.i64.wrap ((ls.length:Int)-1)=(m:Int):=by rw[IntKind.wrap_i64];have:=HLL.out;have:=hwt.2;omega
       obtain⟨bl,ol,Ar,cr,rfl,lbl,hrr,ecr⟩:=Q6 HAl.out m hml;have CS:=Hd (λW (f:Zf wr W)=>Bt (strs.ext hrr (f.alloc (.cells #[.string ⟨#[]⟩] 9))) (O':=λ_=>True) (ys:=[⟨#[]⟩]) (B:=some ⟨W.heap.size,0,none⟩) (k:=1) ⟨_,_,rfl,Nl _,(λe=>by cases e),Pa W ⟨#[]⟩ (by decide)⟩);have HE:Hid (∀ W,Zf wr W->W.cell? ⟨bl,ol+m,none⟩=some (.slice Ar ls[m].length cr)/\bl<W.heap.size):=λW f=>⟨f.cell ecr id,Nat.lt_of_lt_of_le lbl f.size⟩
       clear hrr ecr;generalize ls[m]=lr at *
       cases hsa:Bu lr [⟨#[]⟩] with
       | true =>
        rw[hsa]at CS;clear hfi hrd hsz hr hd hu hwt hco hfit hrows hsa h2 hm lbl
        go_wp2_with (first
         | (go_at_call 9;refine (CG.out _ (HX2.out.alloc _) _ _ (Pa wr s hs)).mono ?_;rintro e w2 ⟨rfl,hx⟩;have HY2:=Hd (((Fe wr).alloc _).then hx);clear hx CG)
         | (go_at_call 11;refine (CC.out _ HY2.out).mono ?_;rintro e w3 ⟨rfl,hx⟩;have HY3:=Hd (HY2.out.then hx);obtain⟨ecr,lbl⟩:=HE.out w3 (HY2.out.then hx);clear hx CC)
         | (go_at_call 20;refine (CS.out _ HY3.out).mono ?_;rintro e w4 ⟨rfl,hx⟩;have HY4:=Hd ((HY3.out.alloc _).then hx);clear hx CS)
         | (go_at_call 21;refine (Pz _).mono ?_;rintro e w5 ⟨rfl,hx⟩;have HY5:=Hd (HY4.out.then hx);clear hx)
         | fail)
        go_ret;exact⟨rfl,HX2.out.then HY5.out⟩
       | false =>
        rw[hsa]at CS;have hne:=Zg3 h2;have HCB:=Hd (λW (f:Zf wr W)=>Mb ls hfit (some ⟨bl,ol,none⟩) cl W _ (Z3 HAl.out f))
        have HCO:Hid (∀ W ad cap,(∀ j u,(Yv (Td ls))[j]?=some u->W.cell? (ad.add j)=some u)->Calls Tryz.prog 23 #[.slice (some ad) (Td ls).length cap] W λe w'=>∃ A,e=.returned (.slice A ls.length ls.length)/\strs.At w' (λj=>W.heap.size<=j) A ls/\Zf W w'):=λW ad cap hc=>by
         have:=Pm (Td ls) hne ad cap W hc (Zg4 hfit);rwa[Zb7 (λe=>by rw[e]at h2;exact absurd h2 (by decide)) hrows]at this
        have hpos:0<(Td ls).length:=List.length_pos_iff.2 hne;obtain⟨TL,hTL⟩:∃ TL,TL=Vn (Z2 d (Qs d)) false (Oy mode) s:=⟨_,rfl⟩;have CB:=Hd (λW (f:Zf w W) cs' (hcs:tDict.R W (λ_=>True) d cs')=>Za5 d cs' _ (Qs d) (xOf d) (usL d) s hrd hsz mode W hcs (H.out.2.ext f) (H.out.2.ext f).u8 hd hr (Ed d cs' _ W hcs (H.out.2.ext f) hd hr hu) (λW v kd H U ku w' ha=>Zke hfi HF.out hb ha) (Zkd hr hd _ _ (Zld hu) hrd hsz false (Oy mode)) (Jh hr hd _ (Zbw hu) hrd hsz false (Oy mode)));have hlen:=Jh hr hd _ (Zbw hu) hrd hsz false (Oy mode);rw[<- hTL]at CB hlen;have hd2:0<d.words.length:=by have:=HLL.out;omega
        clear hfi hrd hsz hr hd hu hTL HF hfit hrows hsa hco h2 hm lbl hne hwt;generalize usL d=us at *;obtain⟨n,hne⟩:∃ n,n=TL.length:=⟨_,rfl⟩;have HN:=Hd hne;rw[<- hne]at hlen;clear hne
        go_upto_region 11 with (first
         | (go_at_call 9;refine (CG.out _ (HX2.out.alloc _) _ _ (Pa wr s hs)).mono ?_;rintro e w2 ⟨rfl,hx⟩;have HY2:=Hd (((Fe wr).alloc _).then hx);clear hx CG)
         | (go_at_call 11;refine (CC.out _ HY2.out).mono ?_;rintro e w3 ⟨rfl,hx⟩;have HY3:=Hd (HY2.out.then hx);obtain⟨ecr,lbl⟩:=HE.out w3 (HY2.out.then hx);clear hx CC)
         | (go_at_call 20;refine (CS.out _ HY3.out).mono ?_;rintro e w4 ⟨rfl,hx⟩;have HY4:=Hd ((HY3.out.alloc _).then hx);clear hx CS)
         | fail)
        clear ecr lbl HE hmz hm0 hwr hml HY2 HY3 q0 q1 q2 q3 q4 q5 q6 q7 q8 q9 q10 ql;have hnn:¬ ls.length=0:=by have:=HLL.out;omega
        generalize hP:Td ls=P at *
        go_upto_region 15 with (first
         | (go_at_call 22;refine (HCB.out _ HY4.out).mono ?_;rintro e w5 ⟨vb,rfl,hown,hx⟩;have HY5:=Hd (HY4.out.then hx);obtain⟨gb,cb,evb,_,_⟩:=Vb hown 0 Om;subst evb;have HBY:=Hd hown;clear hx hown HCB)
         | (go_at_call 23;refine (HCO.out w5 ⟨gb,0,none⟩ cb (HBY.out.cells (g:=gb) rfl)).mono ?_;rintro e w6 ⟨Am,rfl,ham,hx⟩;have HAM:=Hd (Ku (O':=λj=>j<w6.heap.size) (λk hk _=>hk) ham);have HY6:=Hd (HY5.out.then hx);clear hx ham HCO)
         | fail)
        clear HBY hP hpos hnn HY4 HY5;obtain⟨q0,q1,q2,q3,q4,q5,q6,q7,q8,q9,q10,ql⟩:=KC.out w6 (HXR.out.then HY6.out);have hat6:=Z3 HW1.out.2.2 (HX2.out.then HY6.out);obtain⟨ds,hels,hcells⟩:=Zcz (kv:=Xp) (k:=5) rfl Zlc hat6;have hdl:=Dq hels;obtain⟨ie,hie,z,hz,hsz1,hsz2,hzs⟩:=Qu
        obtain⟨b1,o1,rfl⟩:∃ b o,A1=some ⟨b,o,none⟩:=by
         rcases hat6.2 with e|⟨b,o,e,_⟩
         ·rw[e]at hd2;exact absurd hd2 (by decide)
         ·exact⟨b,o,e⟩
        have hfl:(ds.flatMap (El.enc Xp)).length=d.words.length*6:=by rw[N9,hdl]
        have hone:∀ u∈ds.flatMap (El.enc Xp),u.oneCell'=true:=λu hu=>by
         obtain⟨x,_,hx⟩:=List.mem_flatMap.1 hu;exact El.enc_one (λ_=>rfl) x u hx
        have HEL:=Hd (Ai1 hels (Ai1 (hcells _ rfl) (Ai1 hfl hone)));clear hels hcells hdl hfl hone hat6;go_upto_region 16 with fail
        obtain⟨xb,hxb⟩:∃ xb,xb=w6.heap.size:=⟨_,rfl⟩;rw[<- hxb];have K7:=λC=>alloc_at' w6 (.cells C 30) hxb
        have X7:∀ o,Zf w6 (w6.alloc o):=λo=>(Fl w6).alloc o
        have S7:=λo=>Za w6 o
        generalize hw7:World.alloc w6 _=w7;have HK7:=Hd (hw7▸K7 _);have HX7:=Hd (hw7▸X7 _);have HS7:=Hd (hw7▸S7 _);have HXB:=Hd hxb;clear hxb K7 X7 S7 hw7 q0 q1 q2 q3 q4 q5 q6 q7 q8 q9 q10 ql;obtain⟨q0,_,_,_,_,_,_,_,_,_,_,ql⟩:=KC.out w7 ((HXR.out.then HY6.out).then HX7.out)
        go_upto_region 17 with (first
         | (at_builtin;refine wpList_append_own_at _ rfl _ _ 22 rfl w7.heap.size 53 ie z 6 88 Tryz.underlying22 hie hz hsz1 hsz2 hzs (by decide) _ 0 [] rfl (World.ownsRow_made w7 #[] 0 (Nl _) (by unfold maxLen;omega) (by simp)) ⟨b1,o1,none⟩ d.words.length c1 (ds.flatMap (El.enc Xp)) rfl HEL.out.2.2.1 (λj u hu=>(HX7.out.alloc _).cell (HEL.out.2.1 j u hu) id) HEL.out.2.2.2 (by unfold maxLen;omega) Om (by simp) ?_;intro v' w8 hown' hgrow hnil' hat';rw[Nat.zero_add,List.nil_append]at hown';obtain⟨g,cg,ev,eg,_⟩:=Vb hown' 0 Om;subst ev;have HO8:=Hd hown';have HX8:Hid (Zf w7 w8):=((Fe w7).alloc _).grown hgrow (λk hk hlt=>by have hk':w7.heap.size=k:=Option.some.inj hk;omega);have x0:=cell_of (HX8.out.heap HK7.out id) 0 _ rfl;have xf:=Zi (HX8.out.heap HK7.out id) 0;have xl:=lt_of_cell x0;clear hown' hgrow hnil' hat' eg q0 ql)
         | fail)
        have hgb:w7.heap.size<=g:=Y1 (g:=g) HO8.out rfl;have F9:Fr (λj=>j=xb) w8 (w8.setCell ⟨xb,0,none⟩ (.slice (some ⟨g,0,none⟩) d.words.length cg)):=(Fl w8).setCell ⟨xb,0,none⟩ _ (λ_=>rfl);have X9:Zf w6 (w8.setCell ⟨xb,0,none⟩ (.slice (some ⟨g,0,none⟩) d.words.length cg)):=(HX7.out.then HX8.out).trans F9 (λk hk e=>by have:=HXB.out;omega);have W9:=Zj6 HEL.out.1 X9 (Nat.le_of_lt (by rw[HS7.out];omega)) (Zs HO8.out F9 (λj e q=>by have e:=Option.some.inj e;have e:g=j:=e;have:=HS7.out;have:=HXB.out;omega));have B9:=Xf (HX8.out.heap HK7.out id) 0 (.slice (some ⟨g,0,none⟩) d.words.length cg)
        have hcg:d.words.length<=cg:=by
         obtain⟨_,⟨e,_⟩|⟨g',c',cur,e,_,_,hc,_⟩⟩:=HO8.out
         ·cases e
         ·cases e;exact hc
        have hgx:¬ xb=g:=by have:=HS7.out;have:=HXB.out;omega
        have hg6:w6.heap.size<g:=by have:=HS7.out;omega
        have HW9:=Hd (Ai1 W9 X9);have HB9:Hid ((w8.setCell ⟨xb,0,none⟩ (.slice (some ⟨g,0,none⟩) d.words.length cg)).heap[xb]?=some (.cells #[.slice (some ⟨g,0,none⟩) d.words.length cg,.int .i64 d.rows,.int .i64 d.cols,.slice A2 d.costs.length c2,.slice A3 d.classes.length c3,.slice A4 d.chars.length c4,.slice A5 d.unknown.length c5,.slice A6 d.meta0.length c6,.slice A7 d.unkMeta.length c7,.bool d.hasUser,.slice A8 d.user.length c8] 30 (0,0))):=B9;clear F9 X9 W9 B9 HO8 HX8 HX7 HK7 HS7 HEL hie hz hsz1 hsz2 hzs hgb HXB x0 xf xl;generalize w8.setCell _ _=w9 at *;go_wp2_with fail
        go_loopg [86] ls.length (λg1 v86 wr=>∃ i:Nat,v86=.int .i64 (i:Int)/\i<=ls.length/\ls.length<=i+g1/\Hid (Km g d.words wr/\Fr (λj=>j=g) w9 wr))
        case atStart=>exact⟨0,rfl,Om,Om,HW9.out.1,Fl _⟩
        case round =>
         obtain⟨i,rfl,hi,hg2,HQ⟩:=hrel;by_cases hlt:i<ls.length
         ·have hlz:(i:Int)<(ls.length:Int):=Om;have hz0:(0:Int)<=(i:Int):=Om;have hiw:i<d.words.length:=by have:=HLL.out;omega
          have hlw:(i:Int)<(d.words.length:Int):=Om;obtain⟨bm,om,Ai,ci,rfl,lbm,hri,eci⟩:=Q6 (Dw (Z3 HAM.out HW9.out.2) HQ.out.2 (λk _ hk e=>Om)) i hlt
          have hrw:strs.R wr (λj=>j≠g) d.words[i].contents [.slice Ai ls[i].length ci]:=by
           have e:d.words[i].contents=ls[i]:=by
            have:=HLS.out;subst this;rw[List.getElem_map]
           rw[e];exact strs.mono (λk _ hk=>by show k≠g;omega) hri
          have HRW:=Hd hrw;obtain⟨u,ecu,efu⟩:=HQ.out.1.cell i hiw;have x0:=cell_of (HQ.out.2.heap HB9.out hgx) 0 _ rfl;have lx:=lt_of_cell x0;have lg:=lt_of_cell ecu;clear hri hrw;generalize ls[i].length=li at *;go_upto_region 20 with fail
          have hSD:wr.drew.cell? ⟨xb,0,none⟩=some (.slice (some ⟨g,0,none⟩) d.words.length cg)/\wr.drew.cell? ⟨bm,om+i,none⟩=some (.slice Ai li ci)/\wr.drew.cell? ⟨g,i*6+5,none⟩=some u/\wr.drew.frozen? ⟨g,i*6+5,none⟩=false/\xb<wr.drew.heap.size/\bm<wr.drew.heap.size/\g<wr.drew.heap.size:=⟨x0,eci,ecu,efu,lx,lbm,lg⟩;refine Ya 9 10 #[false,false,false,false,false,false,false,false,false,false] (λW=>W.cell? ⟨xb,0,none⟩=some (.slice (some ⟨g,0,none⟩) d.words.length cg)/\W.cell? ⟨bm,om+i,none⟩=some (.slice Ai li ci)/\W.cell? ⟨g,i*6+5,none⟩=some u/\W.frozen? ⟨g,i*6+5,none⟩=false/\xb<W.heap.size/\bm<W.heap.size/\g<W.heap.size) mixed rfl rfl (hSD) (λhS=>?_);refine WL.go [(0,89),(1,90),(2,91),(3,92),(4,93),(5,94),(6,95),(7,96),(8,97)] ?_;iterate 9 (refine WL.tk (v:=?_) rfl rfl Kr (λ_ _ _ h=>h) (Or.inl ⟨Rf,?_⟩) (by assumption) ?_;rotate_left;(focus (intro w hSw;(try obtain⟨s0,s1,s2,s3,s4,s5,s6⟩:=hSw);go_simp;(try with_reducible rfl)));simp only[Act.put,Sa,Sb1,Sc])
          refine WZ.last rfl Kr Kr (λK hK=>?_)
          (obtain⟨s0,s1,s2,s3,s4,s5,s6⟩:=hSD);go_simp
          refine hK.out _ _ ?_;clear hK K;go_wp2_with fail
          go_roundg (ls.length-(i+1))
          case measure=>omega
          case rel=>exact⟨i+1,by go_num,Om,Om,(HQ.out.1.keep ((Fe wr).drew) (λ_=>id)).set i hiw (strs.ext HRW.out ((Fe wr).drew)),(HQ.out.2.drew).setCell ⟨g,i*6+5,none⟩ _ (λ_=>rfl)⟩
         ·obtain rfl:i=ls.length:=Om
          have X6q:Zf w6 wr:=HW9.out.2.trans HQ.out.2 (λk hk e=>Om);have HXQ:=Hd ((HX2.out.then HY6.out).then X6q);have HBQ:=Hd (HQ.out.2.heap HB9.out hgx);have HDX:=Hd (Bg (tDict.ext H.out.1 HXQ.out) hcg (λe=>by cases e) (HQ.out.1.at Om));obtain⟨q0,q1,q2,q3,q4,q5,q6,q7,q8,q9,q10,ql⟩:=KC.out wr ((HXR.out.then HY6.out).then X6q);clear X6q HQ HB9 HW9 HAM hg2 hlt hi
          go_upto_region 23 with (first
           | (go_at_call 24;refine (CB.out _ HXQ.out _ (tDict.ext H.out.1 HXQ.out)).mono ?_;rintro e w10 ⟨va,rfl,hra,hx⟩;obtain⟨Aa,ca,ea⟩:=hra.own;rw[List.length_map,<- HN.out]at ea;subst ea;have HRA:=Hd hra;have HZ10:=Hd hx;clear hx hra q0 q1 q2 q3 q4 q5 q6 q7 q8 q9 q10 ql)
           | fail)
          have xh:=HZ10.out.heap HBQ.out id;have x0:=cell_of xh 0 _ rfl;have x1:=cell_of xh 1 _ rfl;have x2:=cell_of xh 2 _ rfl;have x3:=cell_of xh 3 _ rfl;have x4:=cell_of xh 4 _ rfl;have x5:=cell_of xh 5 _ rfl;have x6:=cell_of xh 6 _ rfl;have x7:=cell_of xh 7 _ rfl;have x8:=cell_of xh 8 _ rfl;have x9:=cell_of xh 9 _ rfl;have x10:=cell_of xh 10 _ rfl;have xl:=lt_of_cell x0;clear xh
          go_upto_region 24 with (first
           | (go_at_call 24;refine (CB.out _ (HXQ.out.then HZ10.out) _ (tDict.ext HDX.out HZ10.out)).mono ?_;rintro e w11 ⟨vc,rfl,hrc,hx⟩;obtain⟨Ac,cc,ec⟩:=hrc.own;rw[List.length_map,<- HN.out]at ec;subst ec;have HRC:=Hd (Ai1 (HRA.out.ext hx) hrc);have HZ11:=Hd ((HXQ.out.then HZ10.out).then hx);clear hx hrc HRA x0 x1 x2 x3 x4 x5 x6 x7 x8 x9 x10 xl)
           | fail)
          clear CB HDX HBQ HXQ HZ10 hcg hgx hg6;go_wp2_with fail
          go_loopg [128] n (λg1 v128 wr=>∃ i:Nat,v128=.int .i64 (i:Int)/\i<=n/\n<=i+g1/\Hid (Zf w11 wr))
          case atStart=>exact⟨0,rfl,Om,Om,Fl _⟩
          case round =>
           obtain⟨i,rfl,hi,hg,HR⟩:=hrel;by_cases hlt:i<n
           ·have hlz:(i:Int)<(n:Int):=Om;have hz0:(0:Int)<=(i:Int):=Om;have hil:i<TL.length:=by rw[<- HN.out];exact hlt
            obtain⟨bm,om,csm,rfl,lm,hrm,hcm⟩:=(HRC.out.1.ext HR.out).elem i (by rw[List.length_map];exact hil);obtain⟨bn,on,csn,rfl,ln,hrn,hcn⟩:=(HRC.out.2.ext HR.out).elem i (by rw[List.length_map];exact hil);rw[List.getElem_map]at hrm hrn;generalize TL[i]=t at *;obtain⟨vF,vP,vT,vY,rfl,hF,hP,hTk,hYm⟩:=hrm;obtain⟨uF,uP,uT,uY,rfl,gF,gP,gTk,gYm⟩:=hrn;obtain⟨AF,cF,rfl⟩:=Yq hF;obtain⟨AP,cP,rfl⟩:=Yq hP;obtain⟨AT,cT,rfl⟩:=Yq hTk;obtain⟨AY,cY,rfl⟩:=Yq hYm;obtain⟨EF,eF,rfl⟩:=Yq gF;obtain⟨EP,eP,rfl⟩:=Yq gP;obtain⟨ET,eT,rfl⟩:=Yq gTk;obtain⟨EY,eY,rfl⟩:=Yq gYm
            have rm:wr.rangeAt bm (om+i*20) [.slice AF _ cF,.slice AP _ cP,.string ((Zo d us t V6).getD ⟨#[]⟩),.bool (Zo d us t V6).isSome,.string ((Zo d us t V4).getD ⟨#[]⟩),.bool (Zo d us t V4).isSome,.string ((Zo d us t V5).getD ⟨#[]⟩),.bool (Zo d us t V5).isSome,.string ((Zo d us t J8).getD ⟨#[]⟩),.bool (Zo d us t J8).isSome,.string ((Zo d us t Pf).getD ⟨#[]⟩),.bool (Zo d us t Pf).isSome,.bool (Pk us t).isSome,.slice AT _ cT,.slice AY _ cY,.string (Zb1 t),.string (Ye t.cls),.string ((Zo d us t V6).getD ⟨#[]⟩),.string ((Zo d us t V4).getD ⟨#[]⟩),.string ((Zo d us t V5).getD ⟨#[]⟩)]:=λj v hv=>by
             obtain⟨hj,e⟩:=Gl.1 hv;rw[<- e];exact hcm j hj
            have rn:wr.rangeAt bn (on+i*20) [.slice EF _ eF,.slice EP _ eP,.string ((Zo d us t V6).getD ⟨#[]⟩),.bool (Zo d us t V6).isSome,.string ((Zo d us t V4).getD ⟨#[]⟩),.bool (Zo d us t V4).isSome,.string ((Zo d us t V5).getD ⟨#[]⟩),.bool (Zo d us t V5).isSome,.string ((Zo d us t J8).getD ⟨#[]⟩),.bool (Zo d us t J8).isSome,.string ((Zo d us t Pf).getD ⟨#[]⟩),.bool (Zo d us t Pf).isSome,.bool (Pk us t).isSome,.slice ET _ eT,.slice EY _ eY,.string (Zb1 t),.string (Ye t.cls),.string ((Zo d us t V6).getD ⟨#[]⟩),.string ((Zo d us t V4).getD ⟨#[]⟩),.string ((Zo d us t V5).getD ⟨#[]⟩)]:=λj v hv=>by
             obtain⟨hj,e⟩:=Gl.1 hv;rw[<- e];exact hcn j hj
            have X:=(Fe wr).drew;have CD:=Hd (Jo (Zo d us t V6) (Zo d us t V4) (Zo d us t V5) (Zo d us t J8) (Zo d us t Pf) (Pk us t).isSome (Zb1 t) (Ye t.cls) ((Zo d us t V6).getD ⟨#[]⟩) ((Zo d us t V4).getD ⟨#[]⟩) ((Zo d us t V5).getD ⟨#[]⟩) (strs.ext hF X) (strs.ext gF X) (strs.ext hP X) (strs.ext gP X) (strs.ext hTk X) (strs.ext gTk X) (strs.ext hYm X) (strs.ext gYm X));have HRM:=Hd (Ai1 rm rn);clear hF hP hTk hYm gF gP gTk gYm rm rn X hcm hcn;generalize Zo d us t V6=xb1 at *;generalize Zo d us t V4=xr at *;generalize Zo d us t V5=xp at *;generalize Zo d us t J8=xt at *;generalize Zo d us t Pf=xf at *;generalize Zb1 t=s0 at *;generalize Ye t.cls=s1 at *;generalize (Pk us t).isSome=qx at *;go_upto_region 29 with fail
            refine Ya 9 10 #[false,false,false,false,false,false,false,false,false,false] (λW=>Zf wr W) mixed rfl rfl ((Fl wr).drew) (λhS=>?_);refine WL.go [(0,131),(1,132),(2,133)] ?_;iterate 3 (refine WL.tk (v:=?_) rfl rfl Kr (λ_ _ _ h=>h) (Or.inl ⟨Rf,?_⟩) (by assumption) ?_;rotate_left;(focus (intro w hSw;(try obtain sf:=hSw);go_simp;(try with_reducible rfl)));simp only[Act.put,Sa,Sb1,Sc])
            refine WZ.take (i:=3) (dst:=some 134) (v:=_) rfl rfl Kr (λ_ _ _ h=>h) (yieldsIf_load_mid Rf 66 _ Rf bm (om+i*20) Rf _ _ (λW hW j v hv=>hW.cell (HRM.out.1 j v hv) id) Tryz.underlying66 rfl Kr) (by assumption) ?_;simp only[Act.put,Sa,Sb1,Sc];refine WL.go [(4,135),(5,136),(6,137)] ?_;iterate 3 (refine WL.tk (v:=?_) rfl rfl Kr (λ_ _ _ h=>h) (Or.inl ⟨Rf,?_⟩) (by assumption) ?_;rotate_left;(focus (intro w hSw;(try obtain sf:=hSw);go_simp;(try with_reducible rfl)));simp only[Act.put,Sa,Sb1,Sc])
            refine WZ.take (i:=7) (dst:=some 138) (v:=_) rfl rfl Kr (λ_ _ _ h=>h) (yieldsIf_load_mid Rf 66 _ Rf bn (on+i*20) Rf _ _ (λW hW j v hv=>hW.cell (HRM.out.2 j v hv) id) Tryz.underlying66 rfl Kr) (by assumption) ?_;simp only[Act.put,Sa,Sb1,Sc];refine WZ.one (i:=8) rfl Kr (by decide) (λK hK=>?_);go_simp;go_wp2_with (go_at_call 25;refine CD.out.mono ?_;rintro e wa ⟨rfl,hxa⟩);refine hK.out _ _ (((Fl wr).drew).then hxa) (λhSr29_8=>?_);clear hK K;try simp only[Act.put,Sa,Sb1,Sc]
            refine WZ.last rfl Kr Kr (λK hK=>?_);go_simp;refine hK.out _ _ ?_;clear hK K;go_wp2_with fail
            go_roundg (n-(i+1))
            case measure=>omega
            case rel=>exact⟨i+1,by go_num,Om,Om,HR.out.then hSr29_8⟩
           ·obtain rfl:i=n:=Om
            have HX9:=Hd (HZ11.out.then HR.out)
            go_wp2_with (first
             | (go_at_call 21;refine (Pz _).mono ?_;rintro e w12 ⟨rfl,hx⟩;have HYY:=Hd hx;clear hx)
             | fail)
            go_ret;exact⟨rfl,HX9.out.then HYY.out⟩
  ·go_enter Tryz.func5,Tryz.ntmps5
   go_wp2_with (first
    | (go_at_call 8;refine (CF.out _ ((Fl w).alloc _)).mono ?_;rintro e w1 ⟨rfl,hx⟩;have HX:=Hd hx;clear hx)
    | fail)
   go_ret;exact⟨rfl,((Fl w).alloc _).then HX.out⟩
end Go.Proofs.YtlfoalomaofejaaGreatDoor
