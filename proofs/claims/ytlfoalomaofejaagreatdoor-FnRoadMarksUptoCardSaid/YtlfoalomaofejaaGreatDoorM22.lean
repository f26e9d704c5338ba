/- impl.dictOf whole. -/
import Derived.Test.YtlfoalomaofejaaGreatDoorM21
set_option linter.all false
set_option maxRecDepth 100000
set_option maxHeartbeats 8000000
namespace Go.Proofs.YtlfoalomaofejaaGreatDoor
open Go.RowKit DT SS TR
theorem Zmn(d:Zg)(cs:List Value)(O:Nat->Prop)(w:World)(h:tDict.R w O d cs)(A:U8 w)(q:d.meta0.length<=2147483647/\d.unkMeta.length<=2147483647)(G:Zl d=false) :
  Calls Tryz.prog 151 #[.agg cs.toArray] w λe w'=>e=.returned (.tuple #[.pointer none,.bool false])/\Zf w w':=by
 have H:=Hd (Ai1 h A);obtain⟨A1,Y,A2,X,A3,W,A4,V,A5,U,A6,M,A7,L,Z,K,rfl,_⟩:=Y4 h;clear h A;go_enter Tryz.func151,Tryz.ntmps151
 go_wp2_with (first|(go_at_call 16;refine (Lk d _ O _ (tDict.ext H.out.1 ((Fl w).alloc _)) (H.out.2.ext ((Fl w).alloc _)) q).mono ?_;rw[G];rintro e J ⟨rfl,z⟩;have I:=Hd z;clear z)|fail)
 first|go_ret|go_ret2
 exact⟨rfl,((Fl w).alloc _).then I.out⟩
theorem Zfq{d:Zg}:(Zw d).length=d.words.length:=(Z0 _ _).length_eq
theorem U7(w:World)(o:Obj):(w.alloc o).drew.heap.size=w.heap.size+1:=Za w o
theorem Nj(d:Zg)(cs:List Value)(O:Nat->Prop)(w:World)(h:tDict.R w O d cs)(hT:U8 w)(hd:Hr d)(hr:Zl d=true) :
  Calls Tryz.prog 151 #[.agg cs.toArray] w λe w'=>∃ I U,e=.returned (.tuple #[.pointer (some ⟨I,0,none⟩),.bool true])/\Zz d I w.heap.size U w'/\Zf w w':=by
 have mixed:Tryz.prog.follows .mixedOrders=true:=Kr
 have H:=Hd (Ai1 h hT);have HD:=Hd (Ai1 hd hr);have eh:d.meta0.length<=2147483647/\d.unkMeta.length<=2147483647:=⟨by have:=hd.meta0;omega,by have:=hd.metaU;omega⟩;obtain⟨A1,c1,A2,c2,A3,c3,A4,c4,A5,c5,A6,c6,A7,c7,A8,c8,rfl,h1,h2,h3,h4,h5,h6,h7,h8,_⟩:=Y4 h;have HP:=Hd (Ai1 h1 (Ai1 h2 (Ai1 h3 (Ai1 h4 h6))));clear h hT h1 h2 h3 h4 h5 h6 h7 h8 hd;go_enter Tryz.func151,Tryz.ntmps151
 go_upto_region 3 with (first|(go_at_call 16;refine (Lk d _ O _ (tDict.ext H.out.1 ((Fl w).alloc _)) (H.out.2.ext ((Fl w).alloc _)) eh).mono ?_;rw[hr];rintro e w1 ⟨rfl,V⟩;have HX:=Hd V;clear V)|fail)
 have X1:Hid (Zf w w1):=((Fl w).alloc _).then HX.out;obtain⟨bd,c9⟩:∃ bd,bd=w.heap.size:=⟨_,rfl⟩
 have KB:Hid (w1.heap[bd]?=some (.cells #[.slice A1 d.words.length c1,.int .i64 d.rows,.int .i64 d.cols,.slice A2 d.costs.length c2,.slice A3 d.classes.length c3,.slice A4 d.chars.length c4,.slice A5 d.unknown.length c5,.slice A6 d.meta0.length c6,.slice A7 d.unkMeta.length c7,.bool d.hasUser,.slice A8 d.user.length c8] 30 (0,0))):=by
  rw[c9];exact HX.out.heap (alloc_at _ _) id
 rw[<- c9];have g7:=Hd c9;clear HX c9;obtain⟨W1,gz⟩:∃ W,W=w1:=⟨_,rfl⟩;have Y:=Ya HP.out.1.2.2 X1.out;obtain⟨ds,cr,bx⟩:=Zkd (kv:=T8) (k:=5) rfl (λ{w O x cs} hr=>by obtain⟨p,q,rfl,_⟩:=Ti hr;exact⟨_,rfl⟩) Y;have dr:ds.length=d.words.length:=Zfe cr;have fg:=HD.out.1.words
 have C1:=Zdx A1 d.words.length c1 (ds.flatMap (El.enc T8)) w1 (by rw[Ha,dr]) (λe=>⟨by have:=HP.out.1.2.1 e;have:=HP.out.1.1;omega,HP.out.1.2.1 e⟩) bx (by
  intro u hu;obtain⟨x,_,V⟩:=List.mem_flatMap.1 hu
  exact El.enc_one (λ_=>rfl) x u V) Om
 have HE:=Hd (Ai1 cr dr);have ed:w1.cell? ⟨bd,0,none⟩=some (.slice A1 d.words.length c1):=Zb KB.out 0 _ rfl;have d9:bd<w1.heap.size:=lt_of_cell ed;clear cr bx Y dr hr eh;go_upto_region 4 with (first|(go_at_call 178;refine C1.mono ?_;rintro e wa ⟨v,rfl,hv,eg,_⟩;have HV:=Hd hv;have e8:=Hd eg;clear hv eg C1)|fail)
 have C2:=Zcu w1.heap.size 53 d.words.length v ds wa HV.out HE.out.2 Om HE.out.1.tag;go_upto_region 5 with (first|(go_at_call 179;refine C2.mono ?_;rintro e M ⟨rfl,hv,hf⟩;have d1:=Hd hv;have fd:=Hd hf;clear hv hf C2)|fail)
 have cq:∀ j,v.ownBlock=some j->w1.heap.size<=j:=λj e=>Yo (g:=j) HV.out e
 have FW:Fr (λj=>v.ownBlock=some j) w1 M:=Fr.trans (S:=λj=>v.ownBlock=some j) (e8.out.mono (λ_ _ e=>e.elim)) fd.out (λ_ _ q=>q);have RW:=Hd (Zlp HE.out.1 d1.out FW);have dy:Zf w1 M:=(Fe w1).trans FW (λj hj e=>by have:=cq j e;omega);have X2:Hid (Zf w M):=X1.out.then dy;have cf:=Hd (dy.heap KB.out id);obtain⟨Av,cv,fu⟩:=Zm d1.out;subst fu;clear cq FW dy KB X1 e8 fd HV d1 HE ed d9;have f0:=HD.out.1.meta0;have eb:M.cell? ⟨bd,7,none⟩=some (.slice A6 d.meta0.length c6):=Zb cf.out 7 _ rfl;have d9:bd<M.heap.size:=lt_of_cell eb
 have C3:∀ W:World,Zf M W->Calls Tryz.prog 100 #[.slice A6 d.meta0.length c6] W λe w'=>e=.returned (.map (some W.heap.size))/\Zq Yi W.heap.size (Xj (Zj d.meta0)) w'/\Zf W w':=by
  intro W hw;have cl:(Zj d.meta0).length=d.meta0.length:=by simp[Zj]
  have:=Lr (Zj d.meta0) A6 c6 W (λj hj=>by
   have f1:j<d.meta0.length:=by rw[<- cl];exact hj
   obtain⟨b,o,e,_,_,c0,c1,_⟩:=Rn (Ya HP.out.2.2.2.2.2.2 (X2.out.then hw)) j f1;have en:(Zj d.meta0)[j]=(d.meta0[j].name,d.meta0[j].place):=(by simp[Zj]);rw[en]
   exact⟨b,o,e,c0,c1⟩) (λm ei=>by
   obtain⟨x,V,rfl⟩:=List.mem_map.1 ei
   exact Ri HD.out.2 x (List.mem_append_left _ V)) (by rw[cl];omega)
  rw[cl]at this;exact this
 have C3:Hid _:=C3;have dh:=run_make_row' (P:=Tryz.prog) 221 5 _ 1 Tryz.underlying221 Zjo rfl .i64 .i64 65536 Om Om;have fz:∀ W:World,(Instr.makeSlice 221 (.int .i64 65536) (.int .i64 65536)).run Tryz.prog W=.ok (.slice (some ⟨W.heap.size,0,none⟩) 65536 65536) (W.alloc (.cells (madeCells #[.int .u8 0] 65536) 5)):=dh;clear dh
 go_cut [5] from 27 to 32 (λv5 wx=>∃ I mm cc,v5=.pointer (some ⟨I,0,none⟩)/\Hid (Zf M wx)/\Hid (I<wx.heap.size)/\Hid (∀ W mp,Zf wx W->Zq Yi mp [] W->I<mp->Yr M.heap.size (T6 d (Zw d) I mm cc mp 0 0 0 0 0 Zy Zy Zy Zy) W))
 case first =>
  go_region_law (first|(go_simp;go_at_call 100;refine (C3.out _ (by first|exact (Fl M).drew|exact ((Fl M).drew).alloc _)).mono ?_;rintro e w3 ⟨rfl,cb,ef⟩;have cw:=Hd cb;have bj:=Hd ef;clear cb ef))
  all_goals (go_wp2_with fail;go_meet)
  all_goals first
   | exact⟨w3.heap.size+1,M.heap.size,w3.heap.size,rfl,((((Fl M).drew.then bj.out).alloc _).alloc _),(show _<_ by rw[Za,Za];omega),λW mp hX bc ac =>
     Hb (hX.heap (alloc_at' _ _ (by rw[Za])) id) (((cw.out.keep ((Fe w3).alloc _) id).keep ((Fe _).alloc _) id).keep hX id) (Wa (Wa (World.rowIs_made w3 _ 65536 _) ((Fe _).alloc _) id) hX id) bc
      (Nl _) (by have:=bj.out.size;simpa using this) (by have:=cw.out.lt;simp only[World.drew]at this;omega) Om (by have:=cw.out.lt;simp only[World.drew]at this;omega) ac⟩
   | exact⟨w3.heap.size,M.heap.size+1,M.heap.size,rfl,((((Fl M).drew.alloc _).then bj.out).alloc _),(show _<_ by rw[Za];omega),λW mp hX bc ac =>
     Hb (hX.heap (alloc_at w3 _) id) ((show Zq Yi (M.heap.size+1) (Xj (Zj d.meta0)) w3 by have:=cw.out;rw[U7]at this;exact this).keep (((Fe w3).alloc _).then hX) id) (Wa (S:=λ_=>False) (World.rowIs_made M _ 65536 _).drew ((bj.out.alloc _).then hX) id) bc
      Om (Nl _) (by have:=cw.out.lt;rw[U7]at this;exact this) (by have:=bj.out.size;rw[U7]at this;exact this) Om ac⟩
 case rest =>
  obtain⟨I,mm,cc,rfl,bj,fc,HS⟩:=hcut;have fy:=@run_makeMap Tryz.prog;clear C3 fz eb;go_step;go_upto_region 8 with fail
  obtain⟨mp,bc⟩:∃ mp,mp=wc.heap.size:=⟨_,rfl⟩;rw[<- bc];have cy:(Zw d).length=d.words.length:=Zfq;have HW:Hid (∀ u∈Zw d,u∈d.words):=λu hu=>(Z0 _ _).mem_iff.1 hu
  have df:=RW;obtain⟨ws,bw⟩:∃ ws,ws=Zw d:=⟨_,rfl⟩;rw[<- bw]at cy HW df
  have S0:Hid (Sx M.heap.size M (T6 d ws I mm cc mp 0 0 0 0 0 Zy Zy Zy Zy) (wc.alloc (.map #[] 0))):=by
   refine⟨?_,bj.out.alloc _,rfl⟩;rw[bw];exact HS.out _ _ ((Fl wc).alloc _) (by rw[bc];exact Zq.made _ _) (by rw[bc];exact fc.out)
  have el:=λ(k0:Nat)=>Pn ws (λu hu=>(HD.out.1.word u (HW.out u hu)).1) k0
  have fa:=Hd el;have gs:ws.length<=1000:=Om
  have gi:Hid (∀ u∈ws,(u.pos.length<=50/\u.contents.length<=1000)/\(0<=u.left/\u.left<=64)/\(0<=u.right/\u.right<=64)/\(-32768<=u.weight/\u.weight<=32767)):=λu hu=>by
   have h1:=Tj HD.out.2 u (HW.out u hu);have h2:=Vb HD.out.2;exact⟨HD.out.1.word u (HW.out u hu),Om,Om,h1.2.2.1⟩
  have g5:=Hd cy;rw[<- cy]at df⊢;have gj:Hid (M.heap.size<=mp):=(S0.out.map 3 ((Om:3<8)) rfl).2.1;have d0:=Hd bw;clear bc el cy bj fc HS bw;generalize wc.alloc _=w4 at S0⊢
  go_upto_block 0 with fail
  go_cut [7] from 37 to 91 (λv7 wx=>∃ v0 v1 v4,Hid (Sx M.heap.size M (T6 d ws I mm cc mp ws.length ws.length ws.length ws.length ws.length v7 v0 v1 v4) wx))
  case first =>
   go_wp2_with fail
   go_loopg [7,36] ws.length (λg1 vk vi wr=>∃ (k:Nat) (v0 v1 v4:Value),vi=.int .i64 k/\k<=ws.length/\ws.length<=k+g1/\Hid (Sx M.heap.size M (T6 d ws I mm cc mp k k k k k vk v0 v1 v4) wr))
   case atStart=>exact⟨0,Zy,Zy,Zy,rfl,Om,Om,S0⟩
   case round =>
    clear S0;obtain⟨k,v0,v1,v4,rfl,hk,hg,ST⟩:=hrel;by_cases ac:k<ws.length
    ·have cj:(k:Int)<ws.length:=Om;obtain⟨b,cp,Ap,bf,Ac,bo,e,hp,hq,e0,e1,e2,e3,e4,e5⟩:=df.out k ac;simp only[Value.slice.injEq]at e;obtain⟨rfl,_,rfl⟩:=e;have bn:=gi.out _ (List.getElem_mem ac);have E1:=Hd (Ai1 (Zdk ws k ac) (Ai1 (Zfs ws k ac) (Ai1 (Zc0 ws k ac) (Ai1 (Zhg ws k ac) (Mb ws k ac)))));generalize V:ws[k]=u at e0 e1 e2 e3 e4 e5 hp hq bn E1;clear V;obtain⟨Bk,ck,ek⟩:=Zm (ST.out.row 4 ((Om:4<8)) rfl).1;obtain⟨B0,c0,dw⟩:=Zm (ST.out.row 5 ((Om:5<8)) rfl).1;obtain⟨B1,bh,db⟩:=ST.out.own 6 ((Om:6<8)) rfl;obtain⟨B4,a6,e6⟩:=ST.out.own 7 ((Om:7<8)) rfl;rw[Wp]at db;have dp:((ws.take k).map GWord.contents).length=k:=by rw[List.length_map,List.length_take];omega
     rw[dp]at e6;have gm:=Hd dp;clear dp;subst ek dw db e6;have X:=ST.out.fr;have e0:=X.cell e0 id;have e1:=X.cell e1 id;have e2:=X.cell e2 id;have e3:=X.cell e3 id;have e4:=X.cell e4 id;have e5:=X.cell e5 id;have d2:=Hd (Ai1 hp hq);clear X hp hq;go_upto_region 11 with fail
     have SB:=Hd (ST.out.box #[.string u.surface,.int .i64 u.left,.int .i64 u.right,.int .i64 u.weight,.slice Ap u.pos.length bf,.slice Ac u.contents.length bo] 53);clear e0 e1 e2 e3 e4 e5 ST;generalize wr.alloc _=wq at SB⊢;generalize wr.heap.size=bq at SB⊢;obtain⟨PB,av⟩:∃ PB,PB=Tp bq #[.string u.surface,.int .i64 u.left,.int .i64 u.right,.int .i64 u.weight,.slice Ap u.pos.length bf,.slice Ac u.contents.length bo] 53:=⟨_,rfl⟩;rw[<- av]at SB;have am:=Hd av;clear av;obtain⟨⟨q1,q2⟩,⟨q3,q4⟩,⟨q5,q6⟩,⟨q7,q8⟩⟩:=bn
     go_cut [7] from 40 to 44 (λfi wx=>∃ bk bg,fi=.slice bk (k+1) bg/\Hid (Sx M.heap.size M (T6 d ws I mm cc mp k (k+1) k k k (.slice bk (k+1) bg) (.slice B0 k c0) (.slice B1 k bh) (.slice B4 k a6)++[PB]) wx))
     case first =>
      have m0:wq.cell? ⟨bq,0,none⟩=some (.string u.surface):=Zb (SB.out.cell 8 ((Om:8<9)) am.out).1 0 _ rfl;have aw:=lt_of_cell m0;have HR:=Hd (SB.out.row 4 ((Om:4<9)) rfl).1;obtain⟨is,f3,fx,fw,fv⟩:=info_parts V5;go_wp2_with (first|(at_builtin;refine wpList_append_own_at _ rfl _ _ 34 rfl 0 9 is _ 1 16 Tryz.underlying34 f3 fx fw fv rfl (by decide) _ k _ rfl (HR.out.alloc _) ⟨wq.heap.size,0,none⟩ 1 1 [.string u.surface] rfl rfl (Z2 _ _) (by intro x V;rw[List.mem_singleton.1 V];rfl) (by unfold maxLen;omega) Om (Nat.zero_le _) ?_;intro v' w6 z G L Y;obtain⟨bk,bg,aq⟩:=Zm z;subst aq;have S6:=Hd ((SB.out.row 4 ((Om:4<9)) rfl).2 G z Y);clear z G Y L)|fail)
      go_meet
      case rel=>exact⟨bk,bg,rfl,by have:=S6.out;rw[<- E1.out.1]at this;exact this⟩
     case rest =>
      obtain⟨bk,bg,rfl,S1⟩:=hcut;clear SB;go_step;refine wp_seq_k λK J=>?_
      go_cut [] from 45 to 63 (λwx=>∃ bl bi,Hid (Sx M.heap.size M (T6 d ws I mm cc mp k (k+1) (k+1) k k (.slice bk (k+1) bg) (.slice bl (k+1) bi) (.slice B1 k bh) (.slice B4 k a6)++[PB]) wx))
      case first =>
       have SD:=Hd (S1.out.ext ((Fl wc).drew));have aa:=(S1.out.cell 8 ((Om:8<9)) am.out).1;have m1:wc.cell? ⟨bq,1,none⟩=some (.int .i64 u.left):=Zb aa 1 _ rfl;have m2:wc.cell? ⟨bq,2,none⟩=some (.int .i64 u.right):=Zb aa 2 _ rfl;have m3:wc.cell? ⟨bq,3,none⟩=some (.int .i64 u.weight):=Zb aa 3 _ rfl;have aw:=lt_of_cell m1;have ad:=(S1.out.cell 0 ((Om:0<9)) rfl).1;have k0:wc.cell? ⟨I,0,none⟩=some (.slice B0 k c0):=Zb ad 0 _ rfl;have bm:=lt_of_cell k0;have HR:=Hd (SD.out.row 5 ((Om:5<9)) rfl).1;obtain⟨im,a1,az,ay,ax⟩:=info_parts Fq;have w1:IntKind.i16.wrap u.left=u.left:=by rw[Ox];omega
       have gr:IntKind.i16.wrap u.right=u.right:=by rw[Ox];omega
       have gq:IntKind.i16.wrap u.weight=u.weight:=by rw[Ox];omega
       clear aa ad;have au:wc.drew.cell? ⟨I,0,none⟩=some (.slice B0 k c0)/\wc.drew.cell? ⟨bq,1,none⟩=some (.int .i64 u.left)/\wc.drew.cell? ⟨bq,2,none⟩=some (.int .i64 u.right)/\wc.drew.cell? ⟨bq,3,none⟩=some (.int .i64 u.weight):=⟨k0,m1,m2,m3⟩
       have gc:∀ o,(wc.drew.alloc o).cell? ⟨I,0,none⟩=some (.slice B0 k c0)/\(wc.drew.alloc o).cell? ⟨bq,1,none⟩=some (.int .i64 u.left)/\(wc.drew.alloc o).cell? ⟨bq,2,none⟩=some (.int .i64 u.right)/\(wc.drew.alloc o).cell? ⟨bq,3,none⟩=some (.int .i64 u.weight):=λo=>by
        have X:Zf wc (wc.drew.alloc o):=((Fl wc).drew).alloc o;exact⟨X.cell k0 id,X.cell m1 id,X.cell m2 id,X.cell m3 id⟩
       refine Ye 19 20 #[false,false,false,false,false,false,false,false,false,false,false,false,false,false,false,false,false,false,false,false] (λW=>W.cell? ⟨I,0,none⟩=some (.slice B0 k c0)/\W.cell? ⟨bq,1,none⟩=some (.int .i64 u.left)/\W.cell? ⟨bq,2,none⟩=some (.int .i64 u.right)/\W.cell? ⟨bq,3,none⟩=some (.int .i64 u.weight)) mixed rfl rfl (au) (λhS=>?_);refine WL.go [(0,45),(1,46),(2,47),(3,48),(4,49),(5,50),(6,51),(7,52),(8,53),(9,54),(10,55),(11,56),(12,57),(13,58),(14,59)] ?_;iterate 15 (refine WL.tk (v:=?_) rfl rfl Kr (λ_ _ _ h=>h) (Or.inl ⟨Rf,?_⟩) (by assumption) ?_;rotate_left;(focus (intro w ab;(try obtain⟨s0,s1,s2,s3⟩:=ab);go_simp;(try with_reducible rfl)));simp only[Act.put,Sa,Sb1,Sc])
       refine WZ.one (i:=15) rfl Kr (by decide) (λK J=>?_);go_simp;refine J.out _ _ (gc _) (λd8=>?_);clear J K;try simp only[Act.put,Sa,Sb1,Sc]
       refine WZ.one (i:=16) rfl Kr (by decide) (λK J=>?_);refine Z9 Rf _ _ 99 Rf 0 178 im _ 3 6 Tryz.underlying99 a1 az ay ax Rf (by decide) (.slice B0 k c0) k _ Rf (HR.out.alloc _) ⟨wc.heap.size,0,none⟩ 1 1 (Lq u.left u.right u.weight) Rf Rf (Kc _ _ _ _) (by intro x V;simp only[Lq,List.mem_cons,List.mem_nil_iff,or_false]at V;rcases V with rfl|rfl|rfl<;>rfl) (by unfold maxLen;omega) Om (Nat.zero_le _) ?_;intro v' w6 z G L Y;obtain⟨bl,bi,aq⟩:=Zm z;subst aq;have S6:=Hd ((SD.out.row 5 ((Om:5<9)) rfl).2 G z Y);have Z:=(S6.out.cell 0 ((Om:0<9)) rfl).1;have al:w6.cell? ⟨I,0,none⟩=some (.slice B0 k c0):=Zb Z 0 _ rfl;have ce:=Zi Z 0;have l6:=lt_of_cell al;have aj:=(S6.out.cell 8 ((Om:8<9)) am.out).1;have h6:=Ai1 al (Ai1 (Zb aj 1 (.int .i64 u.left) rfl) (Ai1 (Zb aj 2 (.int .i64 u.right) rfl) (Zb aj 3 (.int .i64 u.weight) rfl)));clear z G Y L Z aj;refine J.out _ _ (h6) (λd7=>?_);clear J K;try simp only[Act.put,Sa,Sb1,Sc]
       refine WL.go [(17,62),(18,63)] ?_;iterate 2 (refine WL.tk (v:=?_) rfl rfl Kr (λ_ _ _ h=>h) (Or.inl ⟨Rf,?_⟩) (by assumption) ?_;rotate_left;(focus (intro w ab;(try obtain⟨s0,s1,s2,s3⟩:=ab);go_simp;(try with_reducible rfl)));simp only[Act.put,Sa,Sb1,Sc])
       refine WZ.last rfl Kr Kr (λK J=>?_);go_simp;refine J.out _ _ ?_;clear J K;go_wp2_with fail
       go_meet
       case rel=>exact⟨bl,bi,by
        have:=(S6.out.cell 0 ((Om:0<9)) rfl).2 0 (.slice bl (k+1) bi);rw[<- E1.out.2.1]at this
        exact this⟩
      case rest =>
       obtain⟨bl,bi,S2⟩:=hcut;clear S1;go_step;refine wp_seq_k λK J=>?_
       go_cut [] from 64 to 78 (λwx=>∃ bv bt,Hid (Sx M.heap.size M (T6 d ws I mm cc mp (k+1) (k+1) (k+1) (k+1) k (.slice bk (k+1) bg) (.slice bl (k+1) bi) (.slice bv (k+1) bt) (.slice B4 k a6)++[PB]) wx))
       case first =>
        have SD:=Hd (S2.out.ext ((Fl wc).drew));have aa:=(S2.out.cell 8 ((Om:8<9)) am.out).1;have m4:wc.cell? ⟨bq,4,none⟩=some (.slice Ap u.pos.length bf):=Zb aa 4 _ rfl;have aw:=lt_of_cell m4;have ad:=(S2.out.cell 0 ((Om:0<9)) rfl).1;have k1:wc.cell? ⟨I,1,none⟩=some (.slice B1 k bh):=Zb ad 1 _ rfl;have bm:=lt_of_cell k1;obtain⟨ip,f4,fo,fn,fm⟩:=info_parts Zjq;have cb:=SD.out.map 3 ((Om:3<9)) rfl
        have C4:=Zc1 mp (Z8 ws k) u.pos Ap bf wc.drew cb.1 (λj hj=>by
         obtain⟨A0,c0,e,_,_,Y⟩:=DT.Ty.ext strs d2.out.1 SD.out.fr;cases e;obtain⟨b0,o0,e0,_,_,h0,_⟩:=Uk Y j hj;obtain⟨A0,c0,e,_,_,ej⟩:=d2.out.1;cases e;obtain⟨b1,o1,e1,_,l1,_⟩:=Uk ej j hj;have gy:b0=b1:=by rw[e0]at e1;injection e1 with e1;injection e1
         exact⟨b0,o0,e0,(by have:=gj.out;omega),h0⟩) (by have:=fa.out k Om;omega)
        have MP:=Hd cb.2.2;clear aa ad cb;have au:wc.drew.cell? ⟨I,1,none⟩=some (.slice B1 k bh)/\wc.drew.cell? ⟨bq,4,none⟩=some (.slice Ap u.pos.length bf):=⟨k1,m4⟩;refine Ye 15 16 #[false,false,false,false,false,false,false,false,false,false,false,false,false,false,false,false] (λW=>W.cell? ⟨I,1,none⟩=some (.slice B1 k bh)/\W.cell? ⟨bq,4,none⟩=some (.slice Ap u.pos.length bf)) mixed rfl rfl (au) (λhS=>?_);refine WL.go [(0,64),(1,65),(2,66),(3,67),(4,68),(5,69),(6,70),(7,71),(8,72)] ?_;iterate 9 (refine WL.tk (v:=?_) rfl rfl Kr (λ_ _ _ h=>h) (Or.inl ⟨Rf,?_⟩) (by assumption) ?_;rotate_left;(focus (intro w ab;(try obtain⟨s0,s1⟩:=ab);go_simp;(try with_reducible rfl)));simp only[Act.put,Sa,Sb1,Sc])
        refine WZ.one (i:=9) rfl Kr (by decide) (λK J=>?_);go_simp;go_wp2_with (go_at_call 182;refine C4.mono ?_;rintro e w8 ⟨gp,fp,rfl,hg,ai,dk,di,cq⟩;obtain⟨s8,u8⟩:=MP.out _ _ cq di;obtain⟨gf,ci,cg⟩:=s8.rowD u8 SD.out.le 6 ((Om:6<9)) rfl (Wp ws k) (Zns hg ai dk Om);have d3:=Hd ci;have dz:=Hd cg;have h8:w8.cell? ⟨I,1,none⟩=some (.slice B1 k bh)/\w8.cell? ⟨bq,4,none⟩=some (.slice Ap u.pos.length bf):=⟨Zb (s8.cell 0 ((Om:0<9)) rfl).1 1 _ rfl,Zb (s8.cell 8 ((Om:8<9)) am.out).1 4 _ rfl⟩;clear hg ai dk di cq s8 u8 ci cg);refine J.out _ _ (h8) (λez=>?_);clear J K;try simp only[Act.put,Sa,Sb1,Sc]
        refine WZ.one (i:=10) rfl Kr (by decide) (λK J=>?_);go_simp;refine J.out _ _ (⟨((Fe w8).alloc _).cell h8.1 id,((Fe w8).alloc _).cell h8.2 id⟩) (λd6=>?_);clear J K;try simp only[Act.put,Sa,Sb1,Sc]
        refine WZ.one (i:=11) rfl Kr (by decide) (λK J=>?_);refine Z9 Rf _ _ 210 Rf 0 227 ip _ 1 24 Tryz.underlying210 f4 fo fn fm Rf (by decide) (.slice B1 k bh) k _ Rf (d3.out.alloc _) ⟨w8.heap.size,0,none⟩ 1 1 [.slice (some ⟨gp,0,none⟩) u.pos.length u.pos.length] Rf Rf (Z2 _ _) (by intro x V;rw[List.mem_singleton.1 V];rfl) (by unfold maxLen;omega) Om (Nat.zero_le _) ?_;intro v' w6 z G L Y;obtain⟨bv,bt,aq⟩:=Zm z;subst aq;have S6:=Hd (dz.out _ _ _ G z Y);have Z:=(S6.out.cell 0 ((Om:0<9)) rfl).1;have al:w6.cell? ⟨I,1,none⟩=some (.slice B1 k bh):=Zb Z 1 _ rfl;have ce:=Zi Z 1;have l6:=lt_of_cell al;have aj:=(S6.out.cell 8 ((Om:8<9)) am.out).1;have h6:=Ai1 al (Zb aj 4 (.slice Ap u.pos.length bf) rfl);clear z G Y L Z aj;refine J.out _ _ (h6) (λd5=>?_);clear J K;try simp only[Act.put,Sa,Sb1,Sc]
        refine WL.go [(12,76),(13,77),(14,78)] ?_;iterate 3 (refine WL.tk (v:=?_) rfl rfl Kr (λ_ _ _ h=>h) (Or.inl ⟨Rf,?_⟩) (by assumption) ?_;rotate_left;(focus (intro w ab;(try obtain⟨s0,s1⟩:=ab);go_simp;(try with_reducible rfl)));simp only[Act.put,Sa,Sb1,Sc])
        refine WZ.last rfl Kr Kr (λK J=>?_);go_simp;refine J.out _ _ ?_;clear J K;go_wp2_with fail
        go_meet
        case rel=>exact⟨bv,bt,by
         have:=(S6.out.cell 0 ((Om:0<9)) rfl).2 1 (.slice bv (k+1) bt);rw[<- E1.out.2.2.1,<- E1.out.2.2.2.2]at this
         exact this⟩
       case rest =>
        obtain⟨bv,bt,S3⟩:=hcut;clear S2;go_step;have SD:=Hd (S3.out.ext ((Fl wc).drew));have aa:=(S3.out.cell 8 ((Om:8<9)) am.out).1;have m5:wc.cell? ⟨bq,5,none⟩=some (.slice Ac u.contents.length bo):=Zb aa 5 _ rfl;have aw:=lt_of_cell m5;have ad:=(S3.out.cell 0 ((Om:0<9)) rfl).1;have k4:wc.cell? ⟨I,4,none⟩=some (.slice B4 k a6):=Zb ad 4 _ rfl;have bm:=lt_of_cell k4;obtain⟨ic,f5,ft,fs,fq⟩:=info_parts Fp;have C4:=Qq (w:=wc.drew) (DT.Ty.ext strs d2.out.2 SD.out.fr) Om;clear aa ad;have au:wc.drew.cell? ⟨I,4,none⟩=some (.slice B4 k a6)/\wc.drew.cell? ⟨bq,5,none⟩=some (.slice Ac u.contents.length bo):=⟨k4,m5⟩;refine Ye 12 13 #[false,false,false,false,false,false,false,false,false,false,false,false,false] (λW=>W.cell? ⟨I,4,none⟩=some (.slice B4 k a6)/\W.cell? ⟨bq,5,none⟩=some (.slice Ac u.contents.length bo)) mixed rfl rfl (au) (λhS=>?_);refine WL.go [(0,79),(1,80),(2,81),(3,82),(4,83),(5,84),(6,85)] ?_;iterate 7 (refine WL.tk (v:=?_) rfl rfl Kr (λ_ _ _ h=>h) (Or.inl ⟨Rf,?_⟩) (by assumption) ?_;rotate_left;(focus (intro w ab;(try obtain⟨s0,s1⟩:=ab);go_simp;(try with_reducible rfl)));simp only[Act.put,Sa,Sb1,Sc])
        refine WZ.one (i:=7) rfl Kr (by decide) (λK J=>?_);go_simp;go_wp2_with (go_at_call 101;refine C4.mono ?_;rintro e w8 ⟨c,rfl,du,ch⟩;obtain⟨Ad,cd,ec,_⟩:=id du;cases ec;have s8:=SD.out.ext ch;obtain⟨gf,ci,cg⟩:=s8.rowD (SD.out.st.up.keep ch (λ_ _ _=>id)) SD.out.le 7 ((Om:7<9)) rfl gm.out du;have d3:=Hd ci;have dz:=Hd cg;have h8:w8.cell? ⟨I,4,none⟩=some (.slice B4 k a6)/\w8.cell? ⟨bq,5,none⟩=some (.slice Ac u.contents.length bo):=⟨ch.cell k4 id,ch.cell m5 id⟩;clear s8 ci cg du ch);refine J.out _ _ (h8) (λey=>?_);clear J K;try simp only[Act.put,Sa,Sb1,Sc]
        refine WZ.one (i:=8) rfl Kr (by decide) (λK J=>?_);go_simp;refine J.out _ _ (⟨((Fe w8).alloc _).cell h8.1 id,((Fe w8).alloc _).cell h8.2 id⟩) (λew=>?_);clear J K;try simp only[Act.put,Sa,Sb1,Sc]
        refine WZ.one (i:=9) rfl Kr (by decide) (λK J=>?_);refine Z9 Rf _ _ 103 Rf 0 34 ic _ 1 24 Tryz.underlying103 f5 ft fs fq Rf (by decide) (.slice B4 k a6) k _ Rf (d3.out.alloc _) ⟨w8.heap.size,0,none⟩ 1 1 [.slice Ad u.contents.length cd] Rf Rf (Z2 _ _) (by intro x V;rw[List.mem_singleton.1 V];rfl) (by unfold maxLen;omega) Om (Nat.zero_le _) ?_;intro v' w6 z G L Y;obtain⟨d4,dx,aq⟩:=Zm z;subst aq;have S6:=Hd (dz.out _ _ _ G z Y);have Z:=(S6.out.cell 0 ((Om:0<9)) rfl).1;have al:w6.cell? ⟨I,4,none⟩=some (.slice B4 k a6):=Zb Z 4 _ rfl;have ce:=Zi Z 4;have l6:=lt_of_cell al;have aj:=(S6.out.cell 8 ((Om:8<9)) am.out).1;have h6:=Ai1 al (Zb aj 5 (.slice Ac u.contents.length bo) rfl);clear z G Y L Z aj;refine J.out _ _ (h6) (λev=>?_);clear J K;try simp only[Act.put,Sa,Sb1,Sc]
        refine WL.go [(10,89),(11,90)] ?_;iterate 2 (refine WL.tk (v:=?_) rfl rfl Kr (λ_ _ _ h=>h) (Or.inl ⟨Rf,?_⟩) (by assumption) ?_;rotate_left;(focus (intro w ab;(try obtain⟨s0,s1⟩:=ab);go_simp;(try with_reducible rfl)));simp only[Act.put,Sa,Sb1,Sc])
        refine WZ.last rfl Kr Kr (λK J=>?_);go_simp;refine J.out _ _ ?_;clear J K;go_wp2_with fail
        go_roundg (ws.length-(k+1))
        case measure=>omega
        case rel=>exact⟨k+1,.slice bl (k+1) bi,.slice bv (k+1) bt,.slice d4 (k+1) dx,by go_num,Om,Om,by
         have:=(S6.out.cell 0 ((Om:0<9)) rfl).2 4 (.slice d4 (k+1) dx);rw[<- E1.out.2.2.2.1]at this
         exact Sx.init (l:=T6 d ws I mm cc mp (k+1) (k+1) (k+1) (k+1) (k+1) (.slice bk (k+1) bg) (.slice bl (k+1) bi) (.slice bv (k+1) bt) (.slice d4 (k+1) dx)) this⟩
    ·obtain rfl:k=ws.length:=Om
     go_wp2_with fail
     go_meet
     case rel=>exact⟨v0,v1,v4,ST⟩
  case rest =>
   obtain⟨v0,v1,v4,S1⟩:=hcut;clear S0 f0 fy RW df;generalize u7=vk at S1;have em:ws.take ws.length=ws:=List.take_length;unfold T6 at S1;rw[em]at S1;go_step;refine wp_seq_k λK J=>?_
   have C5:=Zap mp (Z8 ws ws.length) wc (S1.out.map 3 ((Om:3<8)) rfl).1 (by have:=fa.out ws.length (Nl _);omega);obtain⟨NL,dv⟩:∃ NL,NL=(Z8 ws ws.length).length+1:=⟨_,rfl⟩;rw[<- dv]at C5;have fb:=Hd dv;clear em dv;go_upto_region 17 with (first|(go_at_call 183;refine C5.mono ?_;rintro e w8 ⟨gl,fl,rfl,hg,ai,h0,h1,V⟩;have H8:=Hd (Ai1 hg (Ai1 ai (Ai1 h0 (Ai1 h1 V))));have ap:=V.heap (S1.out.cell 0 ((Om:0<8)) rfl).1 id;have z2:w8.cell? ⟨I,2,none⟩=some Zy:=Zb ap 2 _ rfl;have f2:=Zi ap 2;have l8:=lt_of_cell z2;clear hg ai h0 h1 V ap)|fail)
   have S2:Hid (Sx M.heap.size M (Z4 d ws I mm cc mp gl vk v0 v1 v4 (Ym v0 v1 (.slice (some ⟨gl,0,none⟩) NL NL) mm v4 0 0 Zy Zy (.map none) Zy cc Zy Zy Zy (.map none) (.map none) (.map none) Zy) (λ_=>.int .u8 0)) (w8.setCell ⟨I,2,none⟩ (.slice (some ⟨gl,0,none⟩) NL NL))):=by
    obtain⟨hg,ai,h0,h1,V⟩:=H8.out;rw[fb.out]at ai⊢;have:=S1.out.snoc V (Py gl 9 ((Z8 ws ws.length).length+1) (Za0 (Z8 ws ws.length))) (λb=>b=gl) ⟨Zjb ai h0 h1,rfl⟩ (λb hb=>by rw[hb];exact⟨hg,ai.lt⟩);exact (this.cell 0 ((Om:0<9)) rfl).2 2 (.slice (some ⟨gl,0,none⟩) ((Z8 ws ws.length).length+1) ((Z8 ws ws.length).length+1))
   clear z2 f2 l8 H8 C5;generalize w8.setCell _ _=w9 at S2⊢;have af:=S2.out.fr.heap cf.out id;have b1:w9.cell? ⟨bd,1,none⟩=some (.int .i64 d.rows):=Zb af 1 _ rfl;have b2:w9.cell? ⟨bd,2,none⟩=some (.int .i64 d.cols):=Zb af 2 _ rfl;have cm:=(S2.out.cell 0 ((Om:0<9)) rfl).1;have z5:w9.cell? ⟨I,5,none⟩=some (.int .i64 0):=Zb cm 5 _ rfl;have z6:w9.cell? ⟨I,6,none⟩=some (.int .i64 0):=Zb cm 6 _ rfl;have z7:w9.cell? ⟨I,7,none⟩=some Zy:=Zb cm 7 _ rfl;have f9:=Zi cm;have l9:=lt_of_cell z5;have fk:=lt_of_cell b1;clear af cm;go_upto_region 18 with fail
   have S3:Hid (Sx M.heap.size M (Z4 d ws I mm cc mp gl vk v0 v1 v4 (Ym v0 v1 (.slice (some ⟨gl,0,none⟩) NL NL) mm v4 d.rows d.cols Zy Zy (.map none) Zy cc Zy Zy Zy (.map none) (.map none) (.map none) Zy) (λ_=>.int .u8 0)) (((w9.setCell ⟨I,5,none⟩ (.int .i64 d.rows)).setCell ⟨I,6,none⟩ (.int .i64 d.cols)).setCell ⟨I,7,none⟩ Zy)):=by
    have q1:=(S2.out.cell 0 ((Om:0<9)) rfl).2 5 (.int .i64 d.rows);have q2:=(q1.cell 0 ((Om:0<9)) rfl).2 6 (.int .i64 d.cols);exact (q2.cell 0 ((Om:0<9)) rfl).2 7 Zy
   clear z5 z6 z7 f9 l9 fk b1 b2 S2;generalize World.setCell (World.setCell (World.setCell w9 _ _) _ _) _ _=fh at S3⊢;have dl:=S3.out.fr.heap cf.out id;have b3:fh.cell? ⟨bd,3,none⟩=some (.slice A2 d.costs.length c2):=Zb dl 3 _ rfl;have ea:=lt_of_cell b3;clear dl;have fe:=Hd (Vb HD.out.2)
   have gv:d.costs.length<=4096:=by
    obtain⟨h1,h2,h3,_⟩:=fe.out;have:d.rows*d.cols<=64*64:=Int.mul_le_mul Om Om Om Om;omega
   go_upto_block 2 with fail
   go_cut [] from 110 to 126 (λwx=>∃ v7,Hid (Sx M.heap.size M (Z4 d ws I mm cc mp gl vk v0 v1 v4 (Ym v0 v1 (.slice (some ⟨gl,0,none⟩) NL NL) mm v4 d.rows d.cols v7 Zy (.map none) Zy cc Zy Zy Zy (.map none) (.map none) (.map none) Zy) (λ_=>.int .u8 0)++[Yq 176 1 v7 d.costs.length (Wt d.costs)]) wx))
   case first =>
    go_wp2_with fail
    go_loopg [109] d.costs.length (λg1 vi wr=>∃ (k:Nat) (v7:Value),vi=.int .i64 k/\k<=d.costs.length/\d.costs.length<=k+g1/\Hid (Sx M.heap.size M (Z4 d ws I mm cc mp gl vk v0 v1 v4 (Ym v0 v1 (.slice (some ⟨gl,0,none⟩) NL NL) mm v4 d.rows d.cols v7 Zy (.map none) Zy cc Zy Zy Zy (.map none) (.map none) (.map none) Zy) (λ_=>.int .u8 0)++[Yq 176 1 v7 k (Wt (d.costs.take k))]) wr))
    case atStart=>exact⟨0,Zy,rfl,Om,Om,S3.out.add0 _ ⟨World.ownsRow_nil _ _ _ _,λb e=>by cases e⟩⟩
    case round =>
     clear S3 b3 ea;obtain⟨k,v7,rfl,hk,hg,ST⟩:=hrel;by_cases ac:k<d.costs.length
     ·have cj:(k:Int)<d.costs.length:=Om;obtain⟨b,o,rfl,_,lb,e0,_⟩:=Zdm (Ya HP.out.2.1.2.2 (X2.out.then ST.out.fr)) k ac;have bn:=Ie HD.out.2 _ (List.getElem_mem ac);have E1:=Hd (Zbx d.costs k ac);generalize V:d.costs[k]=u at e0 bn E1;clear V;obtain⟨B7,e7,ek⟩:=Zm (ST.out.row 9 ((Om:9<10)) rfl).1;subst ek;go_upto_region 21 with fail
      have ad:=(ST.out.cell 0 ((Om:0<10)) rfl).1;have k7:wr.cell? ⟨I,7,none⟩=some (.slice B7 k e7):=Zb ad 7 _ rfl;have bm:=lt_of_cell k7;have HR:=Hd (ST.out.row 9 ((Om:9<10)) rfl).1;obtain⟨im,a1,az,ay,ax⟩:=info_parts Zmc;have w1:IntKind.i16.wrap u=u:=by rw[Ox];omega
      clear ad
      go_wp2_with (first
       | (at_builtin;refine wpList_append_own_at _ rfl _ _ 213 rfl 0 176 im _ 1 2 Tryz.underlying213 a1 az ay ax rfl (by decide) _ k _ rfl (HR.out.alloc _) ⟨wr.heap.size,0,none⟩ 1 1 [.int .i16 u] rfl rfl (Z2 _ _) (by intro x V;rw[List.mem_singleton.1 V];rfl) (by unfold maxLen;omega) Om (Nat.zero_le _) ?_;intro v' w6 z G L Y;obtain⟨ff,dm,aq⟩:=Zm z;subst aq;have S6:=Hd ((ST.out.row 9 ((Om:9<10)) rfl).2 G z Y);have Z:=(S6.out.cell 0 ((Om:0<10)) rfl).1;have al:w6.cell? ⟨I,7,none⟩=some (.slice B7 k e7):=Zb Z 7 _ rfl;have ce:=Zi Z 7;have l6:=lt_of_cell al;clear z G Y L Z)
       | fail)
      go_roundg (d.costs.length-(k+1))
      case measure=>omega
      case rel=>exact⟨k+1,.slice ff (k+1) dm,by go_num,Om,Om,by
       have:=(S6.out.cell 0 ((Om:0<10)) rfl).2 7 (.slice ff (k+1) dm);rw[<- E1.out]at this
       exact this⟩
     ·obtain rfl:k=d.costs.length:=Om
      go_wp2_with fail
      go_meet
      case rel=>exact⟨v7,by have:=ST;rw[List.take_length]at this;exact this⟩
   case rest =>
    obtain⟨v7,S4⟩:=hcut;clear S3 b3 ea
    have e9:Hid (∀ x∈ws.map GWord.surface,Wz x=true):=λx V=>by
     obtain⟨u,hu,rfl⟩:=List.mem_map.1 V;exact (Tj HD.out.2 u (HW.out u hu)).2.2.2
    have dg:Rc (ws.map GWord.surface)<=50000:=by
     have h1:=HD.out.1.sum;rw[d0.out]
     have:Rc ((Zw d).map GWord.surface)=Rc (d.words.map GWord.surface):=by
      unfold Rc Zw;exact (((Z0 V0 d.words).map GWord.surface).map _).sum_nat
     omega
    have C6:=Iy (ws.map GWord.surface) vk ws.length wc (by simp) (by
     have:=(S4.out.row 4 ((Om:4<10)) rfl).1;rw[List.map_map]
     exact this) (by rw[d0.out];exact Ov d.words) (λx V=>(Xa (e9.out x V)).2.1) (by simp;omega) (λx V=>(Xa (e9.out x V)).1) dg
    clear dg;go_step;go_upto_region 27 with (first|(go_at_call 184;refine C6.mono ?_;rintro e w8 ⟨V,gx,nx,mb,rfl,cz,co,be⟩;have H8:=Hd (Ai1 V (Ai1 cz (Ai1 co be)));have ap:=V.heap (S4.out.cell 0 ((Om:0<10)) rfl).1 id;have z8:w8.cell? ⟨I,8,none⟩=some Zy:=Zb ap 8 _ rfl;have z9:w8.cell? ⟨I,9,none⟩=some (.map none):=Zb ap 9 _ rfl;have f2:=Zi ap;have l8:=lt_of_cell z8;clear cz co be V ap)|fail)
    have S5:Hid (Sx M.heap.size M (Z4 d ws I mm cc mp gl vk v0 v1 v4 (Ym v0 v1 (.slice (some ⟨gl,0,none⟩) NL NL) mm v4 d.rows d.cols v7 (.slice (some ⟨gx,0,none⟩) nx nx) (.map (some mb)) Zy cc Zy Zy Zy (.map none) (.map none) (.map none) Zy) (λ_=>.int .u8 0)++[Yq 176 1 v7 d.costs.length (Wt d.costs),Ur gx nx mb (ws.map GWord.surface)]) (((w8.setCell ⟨I,8,none⟩ (.slice (some ⟨gx,0,none⟩) nx nx)).setCell ⟨I,9,none⟩ (.map (some mb))).alloc (.cells #[.slice (some ⟨gx,0,none⟩) nx nx,.map (some mb)] 219))):=by
     obtain⟨V,cz,co,be⟩:=H8.out
     have q0:=(S4.out.snoc V (Ur gx nx mb (ws.map GWord.surface)) (λb=>b=gx\/b=mb) ⟨be,.inl rfl,.inr rfl⟩ (λb hb=>by
      have:=be.lt;rcases hb with rfl|rfl
      ·exact⟨cz,this.1⟩
      ·exact⟨co,this.2⟩))
     have q1:=(q0.cell 0 ((Om:0<11)) rfl).2 8 (.slice (some ⟨gx,0,none⟩) nx nx);exact ((q1.cell 0 ((Om:0<11)) rfl).2 9 (.map (some mb))).ext ((Fl _).alloc _)
    clear z8 z9 f2 l8 H8 C6 S4;generalize World.alloc (World.setCell (World.setCell w8 _ _) _ _) _=w9 at S5⊢;have af:=S5.out.fr.heap cf.out id;have b4:w9.cell? ⟨bd,4,none⟩=some (.slice A3 d.classes.length c3):=Zb af 4 _ rfl;have l9:=lt_of_cell b4;have gb:d.classes.length<=12:=fe.out.2.2.2.2;clear af
    go_upto_block 4 with fail
    go_cut [] from 142 to 178 (λwx=>∃ ah v12 ag,Hid (Sx M.heap.size M (Z4 d ws I mm cc mp gl vk v0 v1 v4 (Ym v0 v1 (.slice (some ⟨gl,0,none⟩) NL NL) mm v4 d.rows d.cols v7 (.slice (some ⟨gx,0,none⟩) nx nx) (.map (some mb)) ah cc v12 ag Zy (.map none) (.map none) (.map none) Zy) (λ_=>.int .u8 0)++[Yq 176 1 v7 d.costs.length (Wt d.costs),Ur gx nx mb (ws.map GWord.surface),Yq 9 1 ah d.classes.length (d.classes.map λc=>Value.string c.name),Yq 4 1 v12 d.classes.length (d.classes.map λc=>Value.bool c.invoke),Yq 4 1 ag d.classes.length (d.classes.map λc=>Value.bool c.group)]) wx))
    case first =>
     go_wp2_with fail
     go_loopg [141] d.classes.length (λg1 vi wr=>∃ (k:Nat) (ah v12 ag:Value),vi=.int .i64 k/\k<=d.classes.length/\d.classes.length<=k+g1/\Hid (Sx M.heap.size M (Z4 d ws I mm cc mp gl vk v0 v1 v4 (Ym v0 v1 (.slice (some ⟨gl,0,none⟩) NL NL) mm v4 d.rows d.cols v7 (.slice (some ⟨gx,0,none⟩) nx nx) (.map (some mb)) ah cc v12 ag Zy (.map none) (.map none) (.map none) Zy) (λ_=>.int .u8 0)++[Yq 176 1 v7 d.costs.length (Wt d.costs),Ur gx nx mb (ws.map GWord.surface),Yq 9 1 ah k ((d.classes.take k).map λc=>Value.string c.name),Yq 4 1 v12 k ((d.classes.take k).map λc=>Value.bool c.invoke),Yq 4 1 ag k ((d.classes.take k).map λc=>Value.bool c.group)]) wr))
     case atStart=>exact⟨0,Zy,Zy,Zy,rfl,Om,Om,((S5.out.add0 (Yq 9 1 Zy 0 []) ⟨World.ownsRow_nil _ _ _ _,λb e=>by cases e⟩).add0 (Yq 4 1 Zy 0 []) ⟨World.ownsRow_nil _ _ _ _,λb e=>by cases e⟩).add0 (Yq 4 1 Zy 0 []) ⟨World.ownsRow_nil _ _ _ _,λb e=>by cases e⟩⟩
     case round =>
      clear S5 b4 l9;obtain⟨k,ah,v12,ag,rfl,hk,hg,ST⟩:=hrel;by_cases ac:k<d.classes.length
      ·have cj:(k:Int)<d.classes.length:=Om;obtain⟨b,o,rfl,_,lb,e0,e1,e2⟩:=Zkk (Ya HP.out.2.2.1.2.2 (X2.out.then ST.out.fr)) k ac;have E1:=Hd (Ai1 (Iv (λc:Tr=>Value.string c.name) d.classes k ac) (Ai1 (Iv (λc:Tr=>Value.bool c.invoke) d.classes k ac) (Iv (λc:Tr=>Value.bool c.group) d.classes k ac)));generalize V:d.classes[k]=u at e0 e1 e2 E1;clear V;obtain⟨cx,cu,dw⟩:=Zm (ST.out.row 11 ((Om:11<14)) rfl).1;obtain⟨bu,bs,db⟩:=Zm (ST.out.row 12 ((Om:12<14)) rfl).1;obtain⟨bb,a8,gd⟩:=Zm (ST.out.row 13 ((Om:13<14)) rfl).1;subst dw db gd;go_upto_region 30 with fail
       have SB:=Hd (ST.out.box #[.string u.name,.bool u.invoke,.bool u.group] 166);clear e0 e1 e2 ST lb;generalize wr.alloc _=wc at SB⊢;generalize wr.heap.size=bq at SB⊢;obtain⟨PB,av⟩:∃ PB,PB=Tp bq #[.string u.name,.bool u.invoke,.bool u.group] 166:=⟨_,rfl⟩;rw[<- av]at SB;have am:=Hd av;clear av
       go_cut [] from 145 to 155 (λwx=>∃ ao ae,Hid (Sx M.heap.size M (Z4 d ws I mm cc mp gl vk v0 v1 v4 (Ym v0 v1 (.slice (some ⟨gl,0,none⟩) NL NL) mm v4 d.rows d.cols v7 (.slice (some ⟨gx,0,none⟩) nx nx) (.map (some mb)) (.slice ao (k+1) ae) cc (.slice bu k bs) (.slice bb k a8) Zy (.map none) (.map none) (.map none) Zy) (λ_=>.int .u8 0)++[Yq 176 1 v7 d.costs.length (Wt d.costs),Ur gx nx mb (ws.map GWord.surface),Yq 9 1 (.slice ao (k+1) ae) (k+1) ((d.classes.take (k+1)).map λc=>Value.string c.name),Yq 4 1 (.slice bu k bs) k ((d.classes.take k).map λc=>Value.bool c.invoke),Yq 4 1 (.slice bb k a8) k ((d.classes.take k).map λc=>Value.bool c.group)]++[PB]) wx))
       case first =>
        have SD:=Hd (SB.out.ext ((Fl wc).drew));have aa:=(SB.out.cell 14 ((Om:14<15)) am.out).1;have m0:wc.cell? ⟨bq,0,none⟩=some (.string u.name):=Zb aa 0 _ rfl;have aw:=lt_of_cell m0;have ad:=(SB.out.cell 0 ((Om:0<15)) rfl).1;have k0:wc.cell? ⟨I,10,none⟩=some (.slice cx k cu):=Zb ad 10 _ rfl;have bm:=lt_of_cell k0;have HR:=Hd (SD.out.row 11 ((Om:11<15)) rfl).1;obtain⟨im,a1,az,ay,ax⟩:=info_parts V5;clear aa ad;have au:wc.drew.cell? ⟨I,10,none⟩=some (.slice cx k cu)/\wc.drew.cell? ⟨bq,0,none⟩=some (.string u.name):=⟨k0,m0⟩;refine Ye 11 12 #[false,false,false,false,false,false,false,false,false,false,false,false] (λW=>W.cell? ⟨I,10,none⟩=some (.slice cx k cu)/\W.cell? ⟨bq,0,none⟩=some (.string u.name)) mixed rfl rfl (au) (λhS=>?_);refine WL.go [(0,145),(1,146),(2,147),(3,148),(4,149),(5,150),(6,151)] ?_;iterate 7 (refine WL.tk (v:=?_) rfl rfl Kr (λ_ _ _ h=>h) (Or.inl ⟨Rf,?_⟩) (by assumption) ?_;rotate_left;(focus (intro w ab;(try obtain⟨s0,s1⟩:=ab);go_simp;(try with_reducible rfl)));simp only[Act.put,Sa,Sb1,Sc])
        refine WZ.one (i:=7) rfl Kr (by decide) (λK J=>?_);go_simp;refine J.out _ _ (⟨((Fe wc).drew.alloc _).cell k0 id,((Fe wc).drew.alloc _).cell m0 id⟩) (λeu=>?_);clear J K;try simp only[Act.put,Sa,Sb1,Sc]
        refine WZ.one (i:=8) rfl Kr (by decide) (λK J=>?_);refine Z9 Rf _ _ 220 Rf 0 9 im _ 1 16 Tryz.underlying220 a1 az ay ax Rf (by decide) (.slice cx k cu) k _ Rf (HR.out.alloc _) ⟨wc.heap.size,0,none⟩ 1 1 [.string u.name] Rf Rf (Z2 _ _) (by intro x V;rw[List.mem_singleton.1 V];rfl) (by unfold maxLen;omega) Om (Nat.zero_le _) ?_;intro v' w6 z G L Y;obtain⟨ao,ae,aq⟩:=Zm z;subst aq;have S6:=Hd ((SD.out.row 11 ((Om:11<15)) rfl).2 G z Y);have Z:=(S6.out.cell 0 ((Om:0<15)) rfl).1;have al:w6.cell? ⟨I,10,none⟩=some (.slice cx k cu):=Zb Z 10 _ rfl;have ce:=Zi Z 10;have l6:=lt_of_cell al;have aj:=(S6.out.cell 14 ((Om:14<15)) am.out).1;have h6:=Ai1 al (Zb aj 0 (.string u.name) rfl);clear z G Y L Z aj;refine J.out _ _ (h6) (λet=>?_);clear J K;try simp only[Act.put,Sa,Sb1,Sc]
        refine WL.go [(9,154),(10,155)] ?_;iterate 2 (refine WL.tk (v:=?_) rfl rfl Kr (λ_ _ _ h=>h) (Or.inl ⟨Rf,?_⟩) (by assumption) ?_;rotate_left;(focus (intro w ab;(try obtain⟨s0,s1⟩:=ab);go_simp;(try with_reducible rfl)));simp only[Act.put,Sa,Sb1,Sc])
        refine WZ.last rfl Kr Kr (λK J=>?_);go_simp;refine J.out _ _ ?_;clear J K;go_wp2_with fail
        go_meet
        case rel=>exact⟨ao,ae,by
         have:=(S6.out.cell 0 ((Om:0<15)) rfl).2 10 (.slice ao (k+1) ae);rw[<- E1.out.1]at this
         exact this⟩
       case rest =>
        obtain⟨ao,ae,gh⟩:=hcut;clear SB
        rename Hid _=>SB
        go_step;refine wp_seq_k λK J=>?_
        go_cut [] from 156 to 166 (λwx=>∃ ar ak,Hid (Sx M.heap.size M (Z4 d ws I mm cc mp gl vk v0 v1 v4 (Ym v0 v1 (.slice (some ⟨gl,0,none⟩) NL NL) mm v4 d.rows d.cols v7 (.slice (some ⟨gx,0,none⟩) nx nx) (.map (some mb)) (.slice ao (k+1) ae) cc (.slice ar (k+1) ak) (.slice bb k a8) Zy (.map none) (.map none) (.map none) Zy) (λ_=>.int .u8 0)++[Yq 176 1 v7 d.costs.length (Wt d.costs),Ur gx nx mb (ws.map GWord.surface),Yq 9 1 (.slice ao (k+1) ae) (k+1) ((d.classes.take (k+1)).map λc=>Value.string c.name),Yq 4 1 (.slice ar (k+1) ak) (k+1) ((d.classes.take (k+1)).map λc=>Value.bool c.invoke),Yq 4 1 (.slice bb k a8) k ((d.classes.take k).map λc=>Value.bool c.group)]++[PB]) wx))
        case first =>
         have SD:=Hd (SB.out.ext ((Fl wc).drew));have aa:=(SB.out.cell 14 ((Om:14<15)) am.out).1;have m0:wc.cell? ⟨bq,1,none⟩=some (.bool u.invoke):=Zb aa 1 _ rfl;have aw:=lt_of_cell m0;have ad:=(SB.out.cell 0 ((Om:0<15)) rfl).1;have k0:wc.cell? ⟨I,12,none⟩=some (.slice bu k bs):=Zb ad 12 _ rfl;have bm:=lt_of_cell k0;have HR:=Hd (SD.out.row 12 ((Om:12<15)) rfl).1;obtain⟨im,a1,az,ay,ax⟩:=info_parts Fu;clear aa ad;have au:wc.drew.cell? ⟨I,12,none⟩=some (.slice bu k bs)/\wc.drew.cell? ⟨bq,1,none⟩=some (.bool u.invoke):=⟨k0,m0⟩;refine Ye 11 12 #[false,false,false,false,false,false,false,false,false,false,false,false] (λW=>W.cell? ⟨I,12,none⟩=some (.slice bu k bs)/\W.cell? ⟨bq,1,none⟩=some (.bool u.invoke)) mixed rfl rfl (au) (λhS=>?_);refine WL.go [(0,156),(1,157),(2,158),(3,159),(4,160),(5,161),(6,162)] ?_;iterate 7 (refine WL.tk (v:=?_) rfl rfl Kr (λ_ _ _ h=>h) (Or.inl ⟨Rf,?_⟩) (by assumption) ?_;rotate_left;(focus (intro w ab;(try obtain⟨s0,s1⟩:=ab);go_simp;(try with_reducible rfl)));simp only[Act.put,Sa,Sb1,Sc])
         refine WZ.one (i:=7) rfl Kr (by decide) (λK J=>?_);go_simp;refine J.out _ _ (⟨((Fe wc).drew.alloc _).cell k0 id,((Fe wc).drew.alloc _).cell m0 id⟩) (λes=>?_);clear J K;try simp only[Act.put,Sa,Sb1,Sc]
         refine WZ.one (i:=8) rfl Kr (by decide) (λK J=>?_);refine Z9 Rf _ _ 222 Rf 0 4 im _ 1 1 Tryz.underlying222 a1 az ay ax Rf (by decide) (.slice bu k bs) k _ Rf (HR.out.alloc _) ⟨wc.heap.size,0,none⟩ 1 1 [.bool u.invoke] Rf Rf (Z2 _ _) (by intro x V;rw[List.mem_singleton.1 V];rfl) (by unfold maxLen;omega) Om (Nat.zero_le _) ?_;intro v' w6 z G L Y;obtain⟨ar,ak,aq⟩:=Zm z;subst aq;have S6:=Hd ((SD.out.row 12 ((Om:12<15)) rfl).2 G z Y);have Z:=(S6.out.cell 0 ((Om:0<15)) rfl).1;have al:w6.cell? ⟨I,12,none⟩=some (.slice bu k bs):=Zb Z 12 _ rfl;have ce:=Zi Z 12;have l6:=lt_of_cell al;have aj:=(S6.out.cell 14 ((Om:14<15)) am.out).1;have h6:=Ai1 al (Zb aj 1 (.bool u.invoke) rfl);clear z G Y L Z aj;refine J.out _ _ (h6) (λer=>?_);clear J K;try simp only[Act.put,Sa,Sb1,Sc]
         refine WL.go [(9,165),(10,166)] ?_;iterate 2 (refine WL.tk (v:=?_) rfl rfl Kr (λ_ _ _ h=>h) (Or.inl ⟨Rf,?_⟩) (by assumption) ?_;rotate_left;(focus (intro w ab;(try obtain⟨s0,s1⟩:=ab);go_simp;(try with_reducible rfl)));simp only[Act.put,Sa,Sb1,Sc])
         refine WZ.last rfl Kr Kr (λK J=>?_);go_simp;refine J.out _ _ ?_;clear J K;go_wp2_with fail
         go_meet
         case rel=>exact⟨ar,ak,by
          have:=(S6.out.cell 0 ((Om:0<15)) rfl).2 12 (.slice ar (k+1) ak);rw[<- E1.out.2.1]at this
          exact this⟩
        case rest =>
         obtain⟨ar,ak,gh⟩:=hcut;clear SB
         rename Hid _=>SB
         go_step;have SD:=Hd (SB.out.ext ((Fl wc).drew));have aa:=(SB.out.cell 14 ((Om:14<15)) am.out).1;have m0:wc.cell? ⟨bq,2,none⟩=some (.bool u.group):=Zb aa 2 _ rfl;have aw:=lt_of_cell m0;have ad:=(SB.out.cell 0 ((Om:0<15)) rfl).1;have k0:wc.cell? ⟨I,13,none⟩=some (.slice bb k a8):=Zb ad 13 _ rfl;have bm:=lt_of_cell k0;have HR:=Hd (SD.out.row 13 ((Om:13<15)) rfl).1;obtain⟨im,a1,az,ay,ax⟩:=info_parts Fu;clear aa ad;have au:wc.drew.cell? ⟨I,13,none⟩=some (.slice bb k a8)/\wc.drew.cell? ⟨bq,2,none⟩=some (.bool u.group):=⟨k0,m0⟩;refine Ye 11 12 #[false,false,false,false,false,false,false,false,false,false,false,false] (λW=>W.cell? ⟨I,13,none⟩=some (.slice bb k a8)/\W.cell? ⟨bq,2,none⟩=some (.bool u.group)) mixed rfl rfl (au) (λhS=>?_);refine WL.go [(0,167),(1,168),(2,169),(3,170),(4,171),(5,172),(6,173)] ?_;iterate 7 (refine WL.tk (v:=?_) rfl rfl Kr (λ_ _ _ h=>h) (Or.inl ⟨Rf,?_⟩) (by assumption) ?_;rotate_left;(focus (intro w ab;(try obtain⟨s0,s1⟩:=ab);go_simp;(try with_reducible rfl)));simp only[Act.put,Sa,Sb1,Sc])
         refine WZ.one (i:=7) rfl Kr (by decide) (λK J=>?_);go_simp;refine J.out _ _ (⟨((Fe wc).drew.alloc _).cell k0 id,((Fe wc).drew.alloc _).cell m0 id⟩) (λep=>?_);clear J K;try simp only[Act.put,Sa,Sb1,Sc]
         refine WZ.one (i:=8) rfl Kr (by decide) (λK J=>?_);refine Z9 Rf _ _ 223 Rf 0 4 im _ 1 1 Tryz.underlying223 a1 az ay ax Rf (by decide) (.slice bb k a8) k _ Rf (HR.out.alloc _) ⟨wc.heap.size,0,none⟩ 1 1 [.bool u.group] Rf Rf (Z2 _ _) (by intro x V;rw[List.mem_singleton.1 V];rfl) (by unfold maxLen;omega) Om (Nat.zero_le _) ?_;intro v' w6 z G L Y;obtain⟨bz,a7,aq⟩:=Zm z;subst aq;have S6:=Hd ((SD.out.row 13 ((Om:13<15)) rfl).2 G z Y);have Z:=(S6.out.cell 0 ((Om:0<15)) rfl).1;have al:w6.cell? ⟨I,13,none⟩=some (.slice bb k a8):=Zb Z 13 _ rfl;have ce:=Zi Z 13;have l6:=lt_of_cell al;have aj:=(S6.out.cell 14 ((Om:14<15)) am.out).1;have h6:=Ai1 al (Zb aj 2 (.bool u.group) rfl);clear z G Y L Z aj;refine J.out _ _ (h6) (λeo=>?_);clear J K;try simp only[Act.put,Sa,Sb1,Sc]
         refine WL.go [(9,176),(10,177)] ?_;iterate 2 (refine WL.tk (v:=?_) rfl rfl Kr (λ_ _ _ h=>h) (Or.inl ⟨Rf,?_⟩) (by assumption) ?_;rotate_left;(focus (intro w ab;(try obtain⟨s0,s1⟩:=ab);go_simp;(try with_reducible rfl)));simp only[Act.put,Sa,Sb1,Sc])
         refine WZ.last rfl Kr Kr (λK J=>?_);go_simp;refine J.out _ _ ?_;clear J K;go_wp2_with fail
         go_roundg (d.classes.length-(k+1))
         case measure=>omega
         case rel=>exact⟨k+1,.slice ao (k+1) ae,.slice ar (k+1) ak,.slice bz (k+1) a7,by go_num,Om,Om,by
          have:=(S6.out.cell 0 ((Om:0<15)) rfl).2 13 (.slice bz (k+1) a7);rw[<- E1.out.2.2]at this
          exact Sx.init (l:=Z4 d ws I mm cc mp gl vk v0 v1 v4 (Ym v0 v1 (.slice (some ⟨gl,0,none⟩) NL NL) mm v4 d.rows d.cols v7 (.slice (some ⟨gx,0,none⟩) nx nx) (.map (some mb)) (.slice ao (k+1) ae) cc (.slice ar (k+1) ak) (.slice bz (k+1) a7) Zy (.map none) (.map none) (.map none) Zy) (λ_=>.int .u8 0)++[Yq 176 1 v7 d.costs.length (Wt d.costs),Ur gx nx mb (ws.map GWord.surface),Yq 9 1 (.slice ao (k+1) ae) (k+1) ((d.classes.take (k+1)).map λc=>Value.string c.name),Yq 4 1 (.slice ar (k+1) ak) (k+1) ((d.classes.take (k+1)).map λc=>Value.bool c.invoke),Yq 4 1 (.slice bz (k+1) a7) (k+1) ((d.classes.take (k+1)).map λc=>Value.bool c.group)]) this⟩
      ·obtain rfl:k=d.classes.length:=Om
       go_wp2_with fail
       go_meet
       case rel=>exact⟨ah,v12,ag,by have:=ST;simp only[List.take_length]at this;exact this⟩
    case rest =>
     obtain⟨ah,v12,ag,S6⟩:=hcut;clear S5 b4 l9;go_step;have af:=S6.out.fr.heap cf.out id;have b5:wc.cell? ⟨bd,5,none⟩=some (.slice A4 d.chars.length c4):=Zb af 5 _ rfl;have l9:=lt_of_cell b5;have gw:=HD.out.1.chars;clear af
     go_upto_block 6 with fail
     go_cut [] from 183 to 203 (λwx=>Hid (Sx M.heap.size M (Z4 d ws I mm cc mp gl vk v0 v1 v4 (Ym v0 v1 (.slice (some ⟨gl,0,none⟩) NL NL) mm v4 d.rows d.cols v7 (.slice (some ⟨gx,0,none⟩) nx nx) (.map (some mb)) ah cc v12 ag Zy (.map none) (.map none) (.map none) Zy) (λr=>.int .u8 (Td d.chars r))++[Yq 176 1 v7 d.costs.length (Wt d.costs),Ur gx nx mb (ws.map GWord.surface),Yq 9 1 ah d.classes.length (d.classes.map λc=>Value.string c.name),Yq 4 1 v12 d.classes.length (d.classes.map λc=>Value.bool c.invoke),Yq 4 1 ag d.classes.length (d.classes.map λc=>Value.bool c.group)]) wx))
     case first =>
      go_wp2_with fail
      go_loopg [182] d.chars.length (λg1 vi wr=>∃ (k:Nat),vi=.int .i64 k/\k<=d.chars.length/\d.chars.length<=k+g1/\Hid (Sx M.heap.size M (Z4 d ws I mm cc mp gl vk v0 v1 v4 (Ym v0 v1 (.slice (some ⟨gl,0,none⟩) NL NL) mm v4 d.rows d.cols v7 (.slice (some ⟨gx,0,none⟩) nx nx) (.map (some mb)) ah cc v12 ag Zy (.map none) (.map none) (.map none) Zy) (λr=>.int .u8 (Td (d.chars.take k) r))++[Yq 176 1 v7 d.costs.length (Wt d.costs),Ur gx nx mb (ws.map GWord.surface),Yq 9 1 ah d.classes.length (d.classes.map λc=>Value.string c.name),Yq 4 1 v12 d.classes.length (d.classes.map λc=>Value.bool c.invoke),Yq 4 1 ag d.classes.length (d.classes.map λc=>Value.bool c.group)]) wr))
      case atStart=>exact⟨0,rfl,Om,Om,S6⟩
      case round =>
       clear S6 b5 l9;obtain⟨k,rfl,hk,hg,ST⟩:=hrel;by_cases ac:k<d.chars.length
       ·have cj:(k:Int)<d.chars.length:=Om;obtain⟨b,o,rfl,_,lb,e0,e1,e2⟩:=Zb1 (Ya HP.out.2.2.2.1.2.2 (X2.out.then ST.out.fr)) k ac;have bn:=Kf HD.out.2 _ (List.getElem_mem ac);have E1:=Hd (Zhp d.chars k ac);generalize V:d.chars[k]=u at e0 e1 e2 E1 bn;clear V;obtain⟨ln,dn⟩:∃ ln:Nat,u.lo=(ln:Int):=⟨u.lo.toNat,Om⟩;obtain⟨hn,dq⟩:∃ hn:Nat,u.hi=(hn:Int):=⟨u.hi.toNat,Om⟩;obtain⟨cn,dt⟩:∃ cn:Nat,u.cls=(cn:Int):=⟨u.cls.toNat,Om⟩;rw[dn]at e0;rw[dq]at e1;rw[dt]at e2;have q1:ln<=65535:=Om;have q2:hn<=65535:=Om;have q3:cn<12:=Om;simp only[dn,dq,dt]at E1;clear bn dn dq dt;go_upto_region 37 with fail
        have SB:=Hd (ST.out.box #[.int .i64 ln,.int .i64 hn,.int .i64 cn] 121);clear e0 e1 e2 ST lb;generalize wr.alloc _=wq at SB⊢;generalize wr.heap.size=bq at SB⊢;obtain⟨PB,av⟩:∃ PB,PB=Tp bq #[.int .i64 ln,.int .i64 hn,.int .i64 cn] 121:=⟨_,rfl⟩;rw[<- av]at SB;have am:=Hd av;clear av;obtain⟨m,hm⟩:∃ m,m=hn+1-ln:=⟨_,rfl⟩;have aa:=(SB.out.cell 14 ((Om:14<15)) am.out).1;have m0:wq.cell? ⟨bq,0,none⟩=some (.int .i64 ln):=Zb aa 0 _ rfl;have aw:=lt_of_cell m0;clear aa;go_wp2_with fail
        go_loopg [18] m (λg2 vr wr=>∃ (t:Nat),vr=.int .i64 ((ln+t:Nat):Int)/\t<=m/\m<=t+g2/\Hid (Sx M.heap.size M (Z4 d ws I mm cc mp gl vk v0 v1 v4 (Ym v0 v1 (.slice (some ⟨gl,0,none⟩) NL NL) mm v4 d.rows d.cols v7 (.slice (some ⟨gx,0,none⟩) nx nx) (.map (some mb)) ah cc v12 ag Zy (.map none) (.map none) (.map none) Zy) (λx=>.int .u8 (if ln<=x/\x<ln+t then (cn:Int) else Td (d.chars.take k) x))++[Yq 176 1 v7 d.costs.length (Wt d.costs),Ur gx nx mb (ws.map GWord.surface),Yq 9 1 ah d.classes.length (d.classes.map λc=>Value.string c.name),Yq 4 1 v12 d.classes.length (d.classes.map λc=>Value.bool c.invoke),Yq 4 1 ag d.classes.length (d.classes.map λc=>Value.bool c.group)]++[PB]) wr))
        case atStart=>exact⟨0,rfl,Om,Om,by
         have e:(λx:Nat=>Value.int .u8 (if ln<=x/\x<ln+0 then (cn:Int) else Td (d.chars.take k) x))=λx=>.int .u8 (Td (d.chars.take k) x):=by
          funext x;rw[if_neg Om]
         rw[e]
         exact SB⟩
        case round =>
         clear SB m0 aw;obtain⟨t,rfl,ht,co,SZ⟩:=hrel;have aa:=(SZ.out.cell 14 ((Om:14<15)) am.out).1;have m1:wr.cell? ⟨bq,1,none⟩=some (.int .i64 hn):=Zb aa 1 _ rfl;have m2:wr.cell? ⟨bq,2,none⟩=some (.int .i64 cn):=Zb aa 2 _ rfl;have aw:=lt_of_cell m1;clear aa;by_cases gu:t<m
         ·have dj:((ln+t:Nat):Int)<=(hn:Int):=Om;have ad:=(SZ.out.cell 0 ((Om:0<15)) rfl).1;have ee:wr.cell? ⟨I,11,none⟩=some (.slice (some ⟨cc,0,none⟩) 65536 65536):=Zb ad 11 _ rfl;have bm:=lt_of_cell ee;have ai:=(SZ.out.block 2 ((Om:2<15)) rfl).1;have ct:=ai.cell ((Om:ln+t<65536));have ga:=ai.frozen (ln+t);have fj:=lt_of_cell ct
          have gn:IntKind.u8.wrap (cn:Int)=(cn:Int):=by
           simp[IntKind.wrap,IntKind.bits,IntKind.signed];omega
          have g0:(0:Int)<=((ln+t:Nat):Int):=Om;have g1:((ln+t:Nat):Int)<65536:=Om;obtain⟨r,hr⟩:∃ r,r=ln+t:=⟨_,rfl⟩;rw[<- hr]at dj ct ga g0 g1 fj⊢;have HR:=Hd hr;clear ad ai hr;go_upto_region 40 with fail
          have au:wr.drew.cell? ⟨I,11,none⟩=some (.slice (some ⟨cc,0,none⟩) 65536 65536)/\wr.drew.cell? ⟨bq,2,none⟩=some (.int .i64 cn):=⟨ee,m2⟩;refine Ye 9 10 #[false,false,false,false,false,false,false,false,false,false] (λW=>W.cell? ⟨I,11,none⟩=some (.slice (some ⟨cc,0,none⟩) 65536 65536)/\W.cell? ⟨bq,2,none⟩=some (.int .i64 cn)) mixed rfl rfl (au) (λhS=>?_);refine WL.go [(0,194),(1,195),(2,196),(3,197),(4,198),(5,199),(6,200),(7,201),(8,202)] ?_;iterate 9 (refine WL.tk (v:=?_) rfl rfl Kr (λ_ _ _ h=>h) (Or.inl ⟨Rf,?_⟩) (by assumption) ?_;rotate_left;(focus (intro w ab;(try obtain⟨s0,s1⟩:=ab);go_simp;(try with_reducible rfl)));simp only[Act.put,Sa,Sb1,Sc])
          refine WZ.last rfl Kr Kr (λK J=>?_);go_simp;refine J.out _ _ ?_;clear J K;go_wp2_with fail
          go_roundg (m-(t+1))
          case measure=>omega
          case rel=>exact⟨t+1,by rw[HR.out];go_num,Om,Om,by
           have:=((SZ.out.ext (Fl wr).drew).block 2 ((Om:2<15)) rfl).2 r (.int .u8 cn)
           have e:(λx:Nat=>if x=r then Value.int .u8 (cn:Int) else Value.int .u8 (if ln<=x/\x<ln+t then (cn:Int) else Td (d.chars.take k) x))=λx=>.int .u8 (if ln<=x/\x<ln+(t+1) then (cn:Int) else Td (d.chars.take k) x):=by
            funext x;have:=HR.out;by_cases V:x=r
            ·rw[if_pos V,if_pos Om]
            ·rw[if_neg V];by_cases hy:ln<=x/\x<ln+t
             ·rw[if_pos hy,if_pos Om]
             ·rw[if_neg hy,if_neg Om]
           rw[<- e]
           exact this⟩
         ·have dj:¬ ((ln+t:Nat):Int)<=(hn:Int):=Om;go_wp2_with fail
          go_roundg (d.chars.length-(k+1))
          case measure=>omega
          case rel=>exact⟨k+1,by go_num,Om,Om,by
           have e:(λx:Nat=>Value.int .u8 (Td (d.chars.take (k+1)) x))=λx=>.int .u8 (if ln<=x/\x<ln+t then (cn:Int) else Td (d.chars.take k) x):=by
            funext x;rw[E1.out x];by_cases hy:ln<=x/\x<ln+t
            ·rw[if_pos hy,if_pos Om]
            ·rw[if_neg hy,if_neg Om]
           have:=SZ.out;rw[<- e]at this
           exact Sx.init (l:=Z4 d ws I mm cc mp gl vk v0 v1 v4 (Ym v0 v1 (.slice (some ⟨gl,0,none⟩) NL NL) mm v4 d.rows d.cols v7 (.slice (some ⟨gx,0,none⟩) nx nx) (.map (some mb)) ah cc v12 ag Zy (.map none) (.map none) (.map none) Zy) (λr=>.int .u8 (Td (d.chars.take (k+1)) r))++[Yq 176 1 v7 d.costs.length (Wt d.costs),Ur gx nx mb (ws.map GWord.surface),Yq 9 1 ah d.classes.length (d.classes.map λc=>Value.string c.name),Yq 4 1 v12 d.classes.length (d.classes.map λc=>Value.bool c.invoke),Yq 4 1 ag d.classes.length (d.classes.map λc=>Value.bool c.group)]) this⟩
       ·obtain rfl:k=d.chars.length:=Om
        go_wp2_with fail
        go_meet
        case rel=>exact (by have:=ST;simp only[List.take_length]at this;exact this)
     case rest =>
      have S7:Hid (Sx M.heap.size M (Z4 d ws I mm cc mp gl vk v0 v1 v4 (Ym v0 v1 (.slice (some ⟨gl,0,none⟩) NL NL) mm v4 d.rows d.cols v7 (.slice (some ⟨gx,0,none⟩) nx nx) (.map (some mb)) ah cc v12 ag Zy (.map none) (.map none) (.map none) Zy) (λr=>.int .u8 (Td d.chars r))++[Yq 176 1 v7 d.costs.length (Wt d.costs),Ur gx nx mb (ws.map GWord.surface),Yq 9 1 ah d.classes.length (d.classes.map λc=>Value.string c.name),Yq 4 1 v12 d.classes.length (d.classes.map λc=>Value.bool c.invoke),Yq 4 1 ag d.classes.length (d.classes.map λc=>Value.bool c.group)]) wc):=hcut;clear S6 b5 l9;have hW:Zw d=ws:=d0.out.symm;go_step;have XW:Zf w wc:=X2.out.then S7.out.fr;have C8:=Eu d _ O wc (tDict.ext H.out.1 XW) (Zag HD.out.2 HD.out.1) (λm hm=>Ri HD.out.2 m (List.mem_append_right _ hm)) (by have:=HD.out.1.metaU;omega);have af:=S7.out.fr.heap cf.out id;have b0:wc.cell? ⟨bd,0,none⟩=some (.slice A1 d.words.length c1):=Zb af 0 _ rfl;have b1:wc.cell? ⟨bd,1,none⟩=some (.int .i64 d.rows):=Zb af 1 _ rfl;have b2:wc.cell? ⟨bd,2,none⟩=some (.int .i64 d.cols):=Zb af 2 _ rfl;have b3:wc.cell? ⟨bd,3,none⟩=some (.slice A2 d.costs.length c2):=Zb af 3 _ rfl;have b4:wc.cell? ⟨bd,4,none⟩=some (.slice A3 d.classes.length c3):=Zb af 4 _ rfl;have b5:wc.cell? ⟨bd,5,none⟩=some (.slice A4 d.chars.length c4):=Zb af 5 _ rfl;have b6:wc.cell? ⟨bd,6,none⟩=some (.slice A5 d.unknown.length c5):=Zb af 6 _ rfl;have b7:wc.cell? ⟨bd,7,none⟩=some (.slice A6 d.meta0.length c6):=Zb af 7 _ rfl;have b8:wc.cell? ⟨bd,8,none⟩=some (.slice A7 d.unkMeta.length c7):=Zb af 8 _ rfl;have b9:wc.cell? ⟨bd,9,none⟩=some (.bool d.hasUser):=Zb af 9 _ rfl;have gg:wc.cell? ⟨bd,10,none⟩=some (.slice A8 d.user.length c8):=Zb af 10 _ rfl;have lb:=lt_of_cell b0;clear af XW;go_upto_region 43 with (first|(go_at_call 47;refine C8.mono ?_;rintro e w8 ⟨ko,mi,md,mu,u0,u4,rfl,V,ca⟩;obtain⟨U0,n0,de,rfl⟩:∃ A n c,u0=Value.slice A n c:=(by obtain⟨_,⟨ho,_⟩,_⟩:=ca.get 1 ((Om:1<6));obtain⟨A,c,e⟩:=Zm ho;exact⟨A,_,c,e⟩);obtain⟨U4,n4,dc,rfl⟩:∃ A n c,u4=Value.slice A n c:=(by obtain⟨_,⟨_,_,ho,_⟩,_⟩:=ca.get 5 ((Om:5<6));obtain⟨A,c,e⟩:=Zm ho;exact⟨A,_,c,e⟩);have H8:=Hd (Ai1 V ca);have ap:=V.heap (S7.out.cell 0 ((Om:0<14)) rfl).1 id;have y0:w8.cell? ⟨I,14,none⟩=some Zy:=Zb ap 14 _ rfl;have y1:w8.cell? ⟨I,15,none⟩=some (.map none):=Zb ap 15 _ rfl;have y2:w8.cell? ⟨I,16,none⟩=some (.map none):=Zb ap 16 _ rfl;have y3:w8.cell? ⟨I,17,none⟩=some (.map none):=Zb ap 17 _ rfl;have y4:w8.cell? ⟨I,18,none⟩=some Zy:=Zb ap 18 _ rfl;have f8:=Zi ap;have l8:=lt_of_cell y0;clear V ca ap)|fail)
      have S8:Hid (Sx M.heap.size M (Zt d I mm cc mp gl gx nx mb ko mi md mu vk v0 v1 v4 v7 ah v12 ag (.slice U0 n0 de) (.slice U4 n4 dc)) (((((w8.setCell ⟨I,14,none⟩ (.slice U0 n0 de)).setCell ⟨I,15,none⟩ (.map (some mi))).setCell ⟨I,16,none⟩ (.map (some md))).setCell ⟨I,17,none⟩ (.map (some mu))).setCell ⟨I,18,none⟩ (.slice U4 n4 dc))):=by
       obtain⟨V,ca⟩:=H8.out;have q0:=S7.out.app V ca;have q1:=(q0.cell 0 ((Om:0<20)) rfl).2 14 (.slice U0 n0 de);have q2:=(q1.cell 0 ((Om:0<20)) rfl).2 15 (.map (some mi));have q3:=(q2.cell 0 ((Om:0<20)) rfl).2 16 (.map (some md));have q4:=(q3.cell 0 ((Om:0<20)) rfl).2 17 (.map (some mu));have q5:=(q4.cell 0 ((Om:0<20)) rfl).2 18 (.slice U4 n4 dc);have e:=fb.out;unfold Zt;rw[hW,<- e];exact q5
      clear y0 y1 y2 y3 y4 f8 l8 b0 b1 b2 b3 b4 b5 b6 b7 b8 b9 gg lb H8 C8 S7;generalize World.setCell (World.setCell (World.setCell (World.setCell (World.setCell w8 _ _) _ _) _ _) _ _) _ _=w9 at S8⊢;go_wp2_with fail
      first|go_ret|go_ret2
      refine⟨I,w9.heap.size,rfl,⟨mm,cc,mp,gl,gx,nx,mb,ko,mi,md,mu,vk,v0,v1,v4,v7,ah,v12,ag,.slice U0 n0 de,.slice U4 n4 dc,?_⟩,X2.out.then S8.out.fr⟩;exact (S8.out.st.base X2.out.size).up
end Go.Proofs.YtlfoalomaofejaaGreatDoor
