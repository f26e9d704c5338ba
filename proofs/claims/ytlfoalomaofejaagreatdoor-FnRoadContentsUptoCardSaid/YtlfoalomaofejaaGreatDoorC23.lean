/- impl.dictOf whole. -/
import Derived.Test.YtlfoalomaofejaaGreatDoorC22
set_option linter.all false
set_option maxRecDepth 100000
set_option maxHeartbeats 8000000
namespace Go.Proofs.YtlfoalomaofejaaGreatDoor
open Go.RowKit DT SS TR
theorem Zlp(d:Zg)(cs:List Value)(O:Nat->Prop)(w:World)(h:tDict.R w O d cs)(hT:U8 w)(hmt:d.meta0.length<=2147483647/\d.unkMeta.length<=2147483647)(hr:Zm d=false) :
  Calls Tryz.prog 151 #[.agg cs.toArray] w λe w'=>e=.returned (.tuple #[.pointer none,.bool false])/\Zf w w':=by
 have H:=Hd (Ai1 h hT);obtain⟨A1,c1,A2,c2,A3,c3,A4,c4,A5,c5,A6,c6,A7,c7,A8,c8,rfl,_⟩:=Yy h;clear h hT;go_enter Tryz.func151,Tryz.ntmps151
 go_wp2_with (first|(go_at_call 16;refine (M3 d _ O _ (tDict.ext H.out.1 ((Fl w).alloc _)) (H.out.2.ext ((Fl w).alloc _)) hmt).mono ?_;rw[hr];rintro e w1 ⟨rfl,hx⟩;have HX:=Hd hx;clear hx)|fail)
 first|go_ret|go_ret2
 exact⟨rfl,((Fl w).alloc _).then HX.out⟩
theorem Zep{d:Zg}:(Zu d).length=d.words.length:=(Zy _ _).length_eq
theorem Uy(w:World)(o:Obj):(w.alloc o).drew.heap.size=w.heap.size+1:=Za w o
theorem O7(d:Zg)(cs:List Value)(O:Nat->Prop)(w:World)(h:tDict.R w O d cs)(hT:U8 w)(hd:I4 d)(hr:Zm d=true) :
  Calls Tryz.prog 151 #[.agg cs.toArray] w λe w'=>∃ kd U,e=.returned (.tuple #[.pointer (some ⟨kd,0,none⟩),.bool true])/\Zx d kd w.heap.size U w'/\Zf w w':=by
 have mixed:Tryz.prog.follows .mixedOrders=true:=Kr
 have H:=Hd (Ai1 h hT);have HD:=Hd (Ai1 hd hr);have hmt:d.meta0.length<=2147483647/\d.unkMeta.length<=2147483647:=⟨by have:=hd.meta0;omega,by have:=hd.metaU;omega⟩;obtain⟨A1,c1,A2,c2,A3,c3,A4,c4,A5,c5,A6,c6,A7,c7,A8,c8,rfl,h1,h2,h3,h4,h5,h6,h7,h8,_⟩:=Yy h;have HP:=Hd (Ai1 h1 (Ai1 h2 (Ai1 h3 (Ai1 h4 h6))));clear h hT h1 h2 h3 h4 h5 h6 h7 h8 hd;go_enter Tryz.func151,Tryz.ntmps151
 go_upto_region 3 with (first|(go_at_call 16;refine (M3 d _ O _ (tDict.ext H.out.1 ((Fl w).alloc _)) (H.out.2.ext ((Fl w).alloc _)) hmt).mono ?_;rw[hr];rintro e w1 ⟨rfl,hx⟩;have HX:=Hd hx;clear hx)|fail)
 have X1:Hid (Zf w w1):=((Fl w).alloc _).then HX.out;obtain⟨bd,hbd⟩:∃ bd,bd=w.heap.size:=⟨_,rfl⟩
 have KB:Hid (w1.heap[bd]?=some (.cells #[.slice A1 d.words.length c1,.int .i64 d.rows,.int .i64 d.cols,.slice A2 d.costs.length c2,.slice A3 d.classes.length c3,.slice A4 d.chars.length c4,.slice A5 d.unknown.length c5,.slice A6 d.meta0.length c6,.slice A7 d.unkMeta.length c7,.bool d.hasUser,.slice A8 d.user.length c8] 30 (0,0))):=by
  rw[hbd];exact HX.out.heap (alloc_at _ _) id
 rw[<- hbd];have HBD:=Hd hbd;clear HX hbd;obtain⟨W1,hW1⟩:∃ W,W=w1:=⟨_,rfl⟩;have hat:=Z3 HP.out.1.2.2 X1.out;obtain⟨ds,hels,hcells⟩:=Zcz (kv:=Xp) (k:=5) rfl (λ{w O x cs} hr=>by obtain⟨p,q,rfl,_⟩:=Ua hr;exact⟨_,rfl⟩) hat;have hdl:ds.length=d.words.length:=Dq hels;have hw1000:=HD.out.1.words
 have C1:=Zc5 A1 d.words.length c1 (ds.flatMap (El.enc Xp)) w1 (by rw[N9,hdl]) (λe=>⟨by have:=HP.out.1.2.1 e;have:=HP.out.1.1;omega,HP.out.1.2.1 e⟩) hcells (by
  intro u hu;obtain⟨x,_,hx⟩:=List.mem_flatMap.1 hu
  exact El.enc_one (λ_=>rfl) x u hx) Om
 have HE:=Hd (Ai1 hels hdl);have kb0:w1.cell? ⟨bd,0,none⟩=some (.slice A1 d.words.length c1):=Zb KB.out 0 _ rfl;have lbd:bd<w1.heap.size:=lt_of_cell kb0;clear hels hcells hat hdl hr hmt;go_upto_region 4 with (first|(go_at_call 178;refine C1.mono ?_;rintro e wa ⟨v,rfl,hv,hx1,_⟩;have HV:=Hd hv;have HX1:=Hd hx1;clear hv hx1 C1)|fail)
 have C2:=Zb3 w1.heap.size 53 d.words.length v ds wa HV.out HE.out.2 Om HE.out.1.tag;go_upto_region 5 with (first|(go_at_call 179;refine C2.mono ?_;rintro e w2 ⟨rfl,hv,hf⟩;have HV2:=Hd hv;have HF2:=Hd hf;clear hv hf C2)|fail)
 have hfr:∀ j,v.ownBlock=some j->w1.heap.size<=j:=λj e=>Y1 (g:=j) HV.out e
 have FW:Fr (λj=>v.ownBlock=some j) w1 w2:=Fr.trans (S:=λj=>v.ownBlock=some j) (HX1.out.mono (λ_ _ e=>e.elim)) HF2.out (λ_ _ q=>q);have RW:=Hd (Zkq HE.out.1 HV2.out FW);have X12:Zf w1 w2:=(Fe w1).trans FW (λj hj e=>by have:=hfr j e;omega);have X2:Hid (Zf w w2):=X1.out.then X12;have KB2:=Hd (X12.heap KB.out id);obtain⟨Av,cv,hve⟩:=Zl HV2.out;subst hve;clear hfr FW X12 KB X1 HX1 HF2 HV HV2 HE kb0 lbd;have hm0:=HD.out.1.meta0;have kb7:w2.cell? ⟨bd,7,none⟩=some (.slice A6 d.meta0.length c6):=Zb KB2.out 7 _ rfl;have lbd:bd<w2.heap.size:=lt_of_cell kb7
 have C3:∀ W:World,Zf w2 W->Calls Tryz.prog 100 #[.slice A6 d.meta0.length c6] W λe w'=>e=.returned (.map (some W.heap.size))/\Zz Xx W.heap.size (Xo (Zj d.meta0)) w'/\Zf W w':=by
  intro W hw;have hlen:(Zj d.meta0).length=d.meta0.length:=by simp[Zj]
  have:=Gj (Zj d.meta0) A6 c6 W (λj hj=>by
   have hj':j<d.meta0.length:=by rw[<- hlen];exact hj
   obtain⟨b,o,e,_,_,c0,c1,_⟩:=Dc (Z3 HP.out.2.2.2.2.2.2 (X2.out.then hw)) j hj';have en:(Zj d.meta0)[j]=(d.meta0[j].name,d.meta0[j].place):=(by simp[Zj]);rw[en]
   exact⟨b,o,e,c0,c1⟩) (λm hmem=>by
   obtain⟨x,hx,rfl⟩:=List.mem_map.1 hmem
   exact Ou HD.out.2 x (List.mem_append_left _ hx)) (by rw[hlen];omega)
  rw[hlen]at this;exact this
 have C3:Hid _:=C3;have hmk0:=run_make_row' (P:=Tryz.prog) 221 5 _ 1 Tryz.underlying221 Zii rfl .i64 .i64 65536 Om Om;have hmk:∀ W:World,(Instr.makeSlice 221 (.int .i64 65536) (.int .i64 65536)).run Tryz.prog W=.ok (.slice (some ⟨W.heap.size,0,none⟩) 65536 65536) (W.alloc (.cells (madeCells #[.int .u8 0] 65536) 5)):=hmk0;clear hmk0
 go_cut [5] from 27 to 32 (λv5 wx=>∃ kd mm cc,v5=.pointer (some ⟨kd,0,none⟩)/\Hid (Zf w2 wx)/\Hid (kd<wx.heap.size)/\Hid (∀ W mp,Zf wx W->Zz Xx mp [] W->kd<mp->Yo w2.heap.size (Su d (Zu d) kd mm cc mp 0 0 0 0 0 Zw Zw Zw Zw) W))
 case first =>
  go_region_law (first|(go_simp;go_at_call 100;refine (C3.out _ (by first|exact (Fl w2).drew|exact ((Fl w2).drew).alloc _)).mono ?_;rintro e w3 ⟨rfl,hm3,hx3⟩;have HM3:=Hd hm3;have HX3:=Hd hx3;clear hm3 hx3))
  all_goals (go_wp2_with fail;go_meet)
  all_goals first
   | exact⟨w3.heap.size+1,w2.heap.size,w3.heap.size,rfl,((((Fl w2).drew.then HX3.out).alloc _).alloc _),(show _<_ by rw[Za,Za];omega),λW mp hX hmp hlt =>
     Ij (hX.heap (alloc_at' _ _ (by rw[Za])) id) (((HM3.out.keep ((Fe w3).alloc _) id).keep ((Fe _).alloc _) id).keep hX id) (Xs (Xs (World.rowIs_made w3 _ 65536 _) ((Fe _).alloc _) id) hX id) hmp
      (Nl _) (by have:=HX3.out.size;simpa using this) (by have:=HM3.out.lt;simp only[World.drew]at this;omega) Om (by have:=HM3.out.lt;simp only[World.drew]at this;omega) hlt⟩
   | exact⟨w3.heap.size,w2.heap.size+1,w2.heap.size,rfl,((((Fl w2).drew.alloc _).then HX3.out).alloc _),(show _<_ by rw[Za];omega),λW mp hX hmp hlt =>
     Ij (hX.heap (alloc_at w3 _) id) ((show Zz Xx (w2.heap.size+1) (Xo (Zj d.meta0)) w3 by have:=HM3.out;rw[Uy]at this;exact this).keep (((Fe w3).alloc _).then hX) id) (Xs (S:=λ_=>False) (World.rowIs_made w2 _ 65536 _).drew ((HX3.out.alloc _).then hX) id) hmp
      Om (Nl _) (by have:=HM3.out.lt;rw[Uy]at this;exact this) (by have:=HX3.out.size;rw[Uy]at this;exact this) Om hlt⟩
 case rest =>
  obtain⟨kd,mm,cc,rfl,HX3,HKD,HS⟩:=hcut;have hmm:=@run_makeMap Tryz.prog;clear C3 hmk kb7;go_step;go_upto_region 8 with fail
  obtain⟨mp,hmp⟩:∃ mp,mp=wc.heap.size:=⟨_,rfl⟩;rw[<- hmp];have hws:(Zu d).length=d.words.length:=Zep;have HW:Hid (∀ u∈Zu d,u∈d.words):=λu hu=>(Zy _ _).mem_iff.1 hu
  have RW2:=RW;obtain⟨ws,hwsd⟩:∃ ws,ws=Zu d:=⟨_,rfl⟩;rw[<- hwsd]at hws HW RW2
  have S0:Hid (Sx w2.heap.size w2 (Su d ws kd mm cc mp 0 0 0 0 0 Zw Zw Zw Zw) (wc.alloc (.map #[] 0))):=by
   refine⟨?_,HX3.out.alloc _,rfl⟩;rw[hwsd];exact HS.out _ _ ((Fl wc).alloc _) (by rw[hmp];exact Zz.made _ _) (by rw[hmp];exact HKD.out)
  have hTC:=λ(k0:Nat)=>Pc ws (λu hu=>(HD.out.1.word u (HW.out u hu)).1) k0
  have HNT:=Hd hTC;have hwl:ws.length<=1000:=Om
  have HUW:Hid (∀ u∈ws,(u.pos.length<=50/\u.contents.length<=1000)/\(0<=u.left/\u.left<=64)/\(0<=u.right/\u.right<=64)/\(-32768<=u.weight/\u.weight<=32767)):=λu hu=>by
   have h1:=Te HD.out.2 u (HW.out u hu);have h2:=Wu HD.out.2;exact⟨HD.out.1.word u (HW.out u hu),Om,Om,h1.2.2.1⟩
  have HWS:=Hd hws;rw[<- hws]at RW2⊢;have HMP:Hid (w2.heap.size<=mp):=(S0.out.map 3 ((Om:3<8)) rfl).2.1;have HWD:=Hd hwsd;clear hmp hTC hws HX3 HKD HS hwsd;generalize wc.alloc _=w4 at S0⊢
  go_upto_block 0 with fail
  go_cut [7] from 37 to 91 (λv7 wx=>∃ v0 v1 v4,Hid (Sx w2.heap.size w2 (Su d ws kd mm cc mp ws.length ws.length ws.length ws.length ws.length v7 v0 v1 v4) wx))
  case first =>
   go_wp2_with fail
   go_loopg [7,36] ws.length (λg1 vk vi wr=>∃ (k:Nat) (v0 v1 v4:Value),vi=.int .i64 k/\k<=ws.length/\ws.length<=k+g1/\Hid (Sx w2.heap.size w2 (Su d ws kd mm cc mp k k k k k vk v0 v1 v4) wr))
   case atStart=>exact⟨0,Zw,Zw,Zw,rfl,Om,Om,S0⟩
   case round =>
    clear S0;obtain⟨k,v0,v1,v4,rfl,hk,hg,ST⟩:=hrel;by_cases hlt:k<ws.length
    ·have hltz:(k:Int)<ws.length:=Om;obtain⟨b,cp,Ap,cpp,Ac,cpc,e,hp,hq,e0,e1,e2,e3,e4,e5⟩:=RW2.out k hlt;simp only[Value.slice.injEq]at e;obtain⟨rfl,_,rfl⟩:=e;have hux:=HUW.out _ (List.getElem_mem hlt);have E1:=Hd (Ai1 (Zcp ws k hlt) (Ai1 (Zer ws k hlt) (Ai1 (Zcb ws k hlt) (Ai1 (Zgd ws k hlt) (Nv ws k hlt)))));generalize hx:ws[k]=u at e0 e1 e2 e3 e4 e5 hp hq hux E1;clear hx;obtain⟨Bk,ck,ek⟩:=Zl (ST.out.row 4 ((Om:4<8)) rfl).1;obtain⟨B0,c0,ek0⟩:=Zl (ST.out.row 5 ((Om:5<8)) rfl).1;obtain⟨B1,cb1,ek1⟩:=ST.out.own 6 ((Om:6<8)) rfl;obtain⟨B4,cb4,ek4⟩:=ST.out.own 7 ((Om:7<8)) rfl;rw[Wk]at ek1;have hk4:((ws.take k).map GWord.contents).length=k:=by rw[List.length_map,List.length_take];omega
     rw[hk4]at ek4;have HK4:=Hd hk4;clear hk4;subst ek ek0 ek1 ek4;have X:=ST.out.fr;have e0:=X.cell e0 id;have e1:=X.cell e1 id;have e2:=X.cell e2 id;have e3:=X.cell e3 id;have e4:=X.cell e4 id;have e5:=X.cell e5 id;have HPQ:=Hd (Ai1 hp hq);clear X hp hq;go_upto_region 11 with fail
     have SB:=Hd (ST.out.box #[.string u.surface,.int .i64 u.left,.int .i64 u.right,.int .i64 u.weight,.slice Ap u.pos.length cpp,.slice Ac u.contents.length cpc] 53);clear e0 e1 e2 e3 e4 e5 ST;generalize wr.alloc _=wq at SB⊢;generalize wr.heap.size=bq at SB⊢;obtain⟨PB,hPB⟩:∃ PB,PB=Tj bq #[.string u.surface,.int .i64 u.left,.int .i64 u.right,.int .i64 u.weight,.slice Ap u.pos.length cpp,.slice Ac u.contents.length cpc] 53:=⟨_,rfl⟩;rw[<- hPB]at SB;have HPB:=Hd hPB;clear hPB;obtain⟨⟨q1,q2⟩,⟨q3,q4⟩,⟨q5,q6⟩,⟨q7,q8⟩⟩:=hux
     go_cut [7] from 40 to 44 (λvk' wx=>∃ Bk' ck',vk'=.slice Bk' (k+1) ck'/\Hid (Sx w2.heap.size w2 (Su d ws kd mm cc mp k (k+1) k k k (.slice Bk' (k+1) ck') (.slice B0 k c0) (.slice B1 k cb1) (.slice B4 k cb4)++[PB]) wx))
     case first =>
      have m0:wq.cell? ⟨bq,0,none⟩=some (.string u.surface):=Zb (SB.out.cell 8 ((Om:8<9)) HPB.out).1 0 _ rfl;have lbq:=lt_of_cell m0;have HR:=Hd (SB.out.row 4 ((Om:4<9)) rfl).1;obtain⟨is,his,hs0,hs1,hs2⟩:=info_parts U7;go_wp2_with (first|(at_builtin;refine wpList_append_own_at _ rfl _ _ 34 rfl 0 9 is _ 1 16 Tryz.underlying34 his hs0 hs1 hs2 rfl (by decide) _ k _ rfl (HR.out.alloc _) ⟨wq.heap.size,0,none⟩ 1 1 [.string u.surface] rfl rfl (Z0 _ _) (by intro x hx;rw[List.mem_singleton.1 hx];rfl) (by unfold maxLen;omega) Om (Nat.zero_le _) ?_;intro v' w6 hown' hgrow hnil' hat;obtain⟨Bk',ck',hv'⟩:=Zl hown';subst hv';have S6:=Hd ((SB.out.row 4 ((Om:4<9)) rfl).2 hgrow hown' hat);clear hown' hgrow hat hnil')|fail)
      go_meet
      case rel=>exact⟨Bk',ck',rfl,by have:=S6.out;rw[<- E1.out.1]at this;exact this⟩
     case rest =>
      obtain⟨Bk',ck',rfl,S1⟩:=hcut;clear SB;go_step;refine wp_seq_k λK hK=>?_
      go_cut [] from 45 to 63 (λwx=>∃ B0' c0',Hid (Sx w2.heap.size w2 (Su d ws kd mm cc mp k (k+1) (k+1) k k (.slice Bk' (k+1) ck') (.slice B0' (k+1) c0') (.slice B1 k cb1) (.slice B4 k cb4)++[PB]) wx))
      case first =>
       have SD:=Hd (S1.out.ext ((Fl wc).drew));have hbq:=(S1.out.cell 8 ((Om:8<9)) HPB.out).1;have m1:wc.cell? ⟨bq,1,none⟩=some (.int .i64 u.left):=Zb hbq 1 _ rfl;have m2:wc.cell? ⟨bq,2,none⟩=some (.int .i64 u.right):=Zb hbq 2 _ rfl;have m3:wc.cell? ⟨bq,3,none⟩=some (.int .i64 u.weight):=Zb hbq 3 _ rfl;have lbq:=lt_of_cell m1;have hkd:=(S1.out.cell 0 ((Om:0<9)) rfl).1;have k0:wc.cell? ⟨kd,0,none⟩=some (.slice B0 k c0):=Zb hkd 0 _ rfl;have lkd:=lt_of_cell k0;have HR:=Hd (SD.out.row 5 ((Om:5<9)) rfl).1;obtain⟨im,him,im0,im1,im2⟩:=info_parts Gv;have w1:IntKind.i16.wrap u.left=u.left:=by rw[Oh];omega
       have w2':IntKind.i16.wrap u.right=u.right:=by rw[Oh];omega
       have w3':IntKind.i16.wrap u.weight=u.weight:=by rw[Oh];omega
       clear hbq hkd;have hSD:wc.drew.cell? ⟨kd,0,none⟩=some (.slice B0 k c0)/\wc.drew.cell? ⟨bq,1,none⟩=some (.int .i64 u.left)/\wc.drew.cell? ⟨bq,2,none⟩=some (.int .i64 u.right)/\wc.drew.cell? ⟨bq,3,none⟩=some (.int .i64 u.weight):=⟨k0,m1,m2,m3⟩
       have hSE:∀ o,(wc.drew.alloc o).cell? ⟨kd,0,none⟩=some (.slice B0 k c0)/\(wc.drew.alloc o).cell? ⟨bq,1,none⟩=some (.int .i64 u.left)/\(wc.drew.alloc o).cell? ⟨bq,2,none⟩=some (.int .i64 u.right)/\(wc.drew.alloc o).cell? ⟨bq,3,none⟩=some (.int .i64 u.weight):=λo=>by
        have X:Zf wc (wc.drew.alloc o):=((Fl wc).drew).alloc o;exact⟨X.cell k0 id,X.cell m1 id,X.cell m2 id,X.cell m3 id⟩
       refine Ya 19 20 #[false,false,false,false,false,false,false,false,false,false,false,false,false,false,false,false,false,false,false,false] (λW=>W.cell? ⟨kd,0,none⟩=some (.slice B0 k c0)/\W.cell? ⟨bq,1,none⟩=some (.int .i64 u.left)/\W.cell? ⟨bq,2,none⟩=some (.int .i64 u.right)/\W.cell? ⟨bq,3,none⟩=some (.int .i64 u.weight)) mixed rfl rfl (hSD) (λhS=>?_);refine WL.go [(0,45),(1,46),(2,47),(3,48),(4,49),(5,50),(6,51),(7,52),(8,53),(9,54),(10,55),(11,56),(12,57),(13,58),(14,59)] ?_;iterate 15 (refine WL.tk (v:=?_) rfl rfl Kr (λ_ _ _ h=>h) (Or.inl ⟨Rf,?_⟩) (by assumption) ?_;rotate_left;(focus (intro w hSw;(try obtain⟨s0,s1,s2,s3⟩:=hSw);go_simp;(try with_reducible rfl)));simp only[Act.put,Sa,Sb1,Sc])
       refine WZ.one (i:=15) rfl Kr (by decide) (λK hK=>?_);go_simp;refine hK.out _ _ (hSE _) (λhSr12_15=>?_);clear hK K;try simp only[Act.put,Sa,Sb1,Sc]
       refine WZ.one (i:=16) rfl Kr (by decide) (λK hK=>?_);refine Z9 Rf _ _ 99 Rf 0 178 im _ 3 6 Tryz.underlying99 him im0 im1 im2 Rf (by decide) (.slice B0 k c0) k _ Rf (HR.out.alloc _) ⟨wc.heap.size,0,none⟩ 1 1 (M9 u.left u.right u.weight) Rf Rf (Lv _ _ _ _) (by intro x hx;simp only[M9,List.mem_cons,List.mem_nil_iff,or_false]at hx;rcases hx with rfl|rfl|rfl<;>rfl) (by unfold maxLen;omega) Om (Nat.zero_le _) ?_;intro v' w6 hown' hgrow hnil' hat;obtain⟨B0',c0',hv'⟩:=Zl hown';subst hv';have S6:=Hd ((SD.out.row 5 ((Om:5<9)) rfl).2 hgrow hown' hat);have hk6:=(S6.out.cell 0 ((Om:0<9)) rfl).1;have c60:w6.cell? ⟨kd,0,none⟩=some (.slice B0 k c0):=Zb hk6 0 _ rfl;have f60:=Zi hk6 0;have l6:=lt_of_cell c60;have hq6:=(S6.out.cell 8 ((Om:8<9)) HPB.out).1;have h6:=Ai1 c60 (Ai1 (Zb hq6 1 (.int .i64 u.left) rfl) (Ai1 (Zb hq6 2 (.int .i64 u.right) rfl) (Zb hq6 3 (.int .i64 u.weight) rfl)));clear hown' hgrow hat hnil' hk6 hq6;refine hK.out _ _ (h6) (λhSr12_16=>?_);clear hK K;try simp only[Act.put,Sa,Sb1,Sc]
       refine WL.go [(17,62),(18,63)] ?_;iterate 2 (refine WL.tk (v:=?_) rfl rfl Kr (λ_ _ _ h=>h) (Or.inl ⟨Rf,?_⟩) (by assumption) ?_;rotate_left;(focus (intro w hSw;(try obtain⟨s0,s1,s2,s3⟩:=hSw);go_simp;(try with_reducible rfl)));simp only[Act.put,Sa,Sb1,Sc])
       refine WZ.last rfl Kr Kr (λK hK=>?_);go_simp;refine hK.out _ _ ?_;clear hK K;go_wp2_with fail
       go_meet
       case rel=>exact⟨B0',c0',by
        have:=(S6.out.cell 0 ((Om:0<9)) rfl).2 0 (.slice B0' (k+1) c0');rw[<- E1.out.2.1]at this
        exact this⟩
      case rest =>
       obtain⟨B0',c0',S2⟩:=hcut;clear S1;go_step;refine wp_seq_k λK hK=>?_
       go_cut [] from 64 to 78 (λwx=>∃ B1' c1',Hid (Sx w2.heap.size w2 (Su d ws kd mm cc mp (k+1) (k+1) (k+1) (k+1) k (.slice Bk' (k+1) ck') (.slice B0' (k+1) c0') (.slice B1' (k+1) c1') (.slice B4 k cb4)++[PB]) wx))
       case first =>
        have SD:=Hd (S2.out.ext ((Fl wc).drew));have hbq:=(S2.out.cell 8 ((Om:8<9)) HPB.out).1;have m4:wc.cell? ⟨bq,4,none⟩=some (.slice Ap u.pos.length cpp):=Zb hbq 4 _ rfl;have lbq:=lt_of_cell m4;have hkd:=(S2.out.cell 0 ((Om:0<9)) rfl).1;have k1:wc.cell? ⟨kd,1,none⟩=some (.slice B1 k cb1):=Zb hkd 1 _ rfl;have lkd:=lt_of_cell k1;obtain⟨ip,hip,ip0,ip1,ip2⟩:=info_parts Zik;have hm3:=SD.out.map 3 ((Om:3<9)) rfl
        have C4:=Zcc mp (Z8 ws k) u.pos Ap cpp wc.drew hm3.1 (λj hj=>by
         obtain⟨A0,c0,e,_,_,hat⟩:=DT.Ty.ext strs HPQ.out.1 SD.out.fr;cases e;obtain⟨b0,o0,e0,_,_,h0,_⟩:=Vw hat j hj;obtain⟨A0,c0,e,_,_,hat2⟩:=HPQ.out.1;cases e;obtain⟨b1,o1,e1,_,l1,_⟩:=Vw hat2 j hj;have hbb:b0=b1:=by rw[e0]at e1;injection e1 with e1;injection e1
         exact⟨b0,o0,e0,(by have:=HMP.out;omega),h0⟩) (by have:=HNT.out k Om;omega)
        have MP:=Hd hm3.2.2;clear hbq hkd hm3;have hSD:wc.drew.cell? ⟨kd,1,none⟩=some (.slice B1 k cb1)/\wc.drew.cell? ⟨bq,4,none⟩=some (.slice Ap u.pos.length cpp):=⟨k1,m4⟩;refine Ya 15 16 #[false,false,false,false,false,false,false,false,false,false,false,false,false,false,false,false] (λW=>W.cell? ⟨kd,1,none⟩=some (.slice B1 k cb1)/\W.cell? ⟨bq,4,none⟩=some (.slice Ap u.pos.length cpp)) mixed rfl rfl (hSD) (λhS=>?_);refine WL.go [(0,64),(1,65),(2,66),(3,67),(4,68),(5,69),(6,70),(7,71),(8,72)] ?_;iterate 9 (refine WL.tk (v:=?_) rfl rfl Kr (λ_ _ _ h=>h) (Or.inl ⟨Rf,?_⟩) (by assumption) ?_;rotate_left;(focus (intro w hSw;(try obtain⟨s0,s1⟩:=hSw);go_simp;(try with_reducible rfl)));simp only[Act.put,Sa,Sb1,Sc])
        refine WZ.one (i:=9) rfl Kr (by decide) (λK hK=>?_);go_simp;go_wp2_with (go_at_call 182;refine C4.mono ?_;rintro e w8 ⟨gp,fp,rfl,hg,hrow,hids,hmap,hfr⟩;obtain⟨s8,u8⟩:=MP.out _ _ hfr hmap;obtain⟨cs5,ho5,up5⟩:=s8.rowD u8 SD.out.le 6 ((Om:6<9)) rfl (Wk ws k) (Zmq hg hrow hids Om);have HO5:=Hd ho5;have UP5:=Hd up5;have h8:w8.cell? ⟨kd,1,none⟩=some (.slice B1 k cb1)/\w8.cell? ⟨bq,4,none⟩=some (.slice Ap u.pos.length cpp):=⟨Zb (s8.cell 0 ((Om:0<9)) rfl).1 1 _ rfl,Zb (s8.cell 8 ((Om:8<9)) HPB.out).1 4 _ rfl⟩;clear hg hrow hids hmap hfr s8 u8 ho5 up5);refine hK.out _ _ (h8) (λhSr13_9=>?_);clear hK K;try simp only[Act.put,Sa,Sb1,Sc]
        refine WZ.one (i:=10) rfl Kr (by decide) (λK hK=>?_);go_simp;refine hK.out _ _ (⟨((Fe w8).alloc _).cell h8.1 id,((Fe w8).alloc _).cell h8.2 id⟩) (λhSr13_10=>?_);clear hK K;try simp only[Act.put,Sa,Sb1,Sc]
        refine WZ.one (i:=11) rfl Kr (by decide) (λK hK=>?_);refine Z9 Rf _ _ 210 Rf 0 227 ip _ 1 24 Tryz.underlying210 hip ip0 ip1 ip2 Rf (by decide) (.slice B1 k cb1) k _ Rf (HO5.out.alloc _) ⟨w8.heap.size,0,none⟩ 1 1 [.slice (some ⟨gp,0,none⟩) u.pos.length u.pos.length] Rf Rf (Z0 _ _) (by intro x hx;rw[List.mem_singleton.1 hx];rfl) (by unfold maxLen;omega) Om (Nat.zero_le _) ?_;intro v' w6 hown' hgrow hnil' hat;obtain⟨B1',c1',hv'⟩:=Zl hown';subst hv';have S6:=Hd (UP5.out _ _ _ hgrow hown' hat);have hk6:=(S6.out.cell 0 ((Om:0<9)) rfl).1;have c60:w6.cell? ⟨kd,1,none⟩=some (.slice B1 k cb1):=Zb hk6 1 _ rfl;have f60:=Zi hk6 1;have l6:=lt_of_cell c60;have hq6:=(S6.out.cell 8 ((Om:8<9)) HPB.out).1;have h6:=Ai1 c60 (Zb hq6 4 (.slice Ap u.pos.length cpp) rfl);clear hown' hgrow hat hnil' hk6 hq6;refine hK.out _ _ (h6) (λhSr13_11=>?_);clear hK K;try simp only[Act.put,Sa,Sb1,Sc]
        refine WL.go [(12,76),(13,77),(14,78)] ?_;iterate 3 (refine WL.tk (v:=?_) rfl rfl Kr (λ_ _ _ h=>h) (Or.inl ⟨Rf,?_⟩) (by assumption) ?_;rotate_left;(focus (intro w hSw;(try obtain⟨s0,s1⟩:=hSw);go_simp;(try with_reducible rfl)));simp only[Act.put,Sa,Sb1,Sc])
        refine WZ.last rfl Kr Kr (λK hK=>?_);go_simp;refine hK.out _ _ ?_;clear hK K;go_wp2_with fail
        go_meet
        case rel=>exact⟨B1',c1',by
         have:=(S6.out.cell 0 ((Om:0<9)) rfl).2 1 (.slice B1' (k+1) c1');rw[<- E1.out.2.2.1,<- E1.out.2.2.2.2]at this
         exact this⟩
       case rest =>
        obtain⟨B1',c1',S3⟩:=hcut;clear S2;go_step;have SD:=Hd (S3.out.ext ((Fl wc).drew));have hbq:=(S3.out.cell 8 ((Om:8<9)) HPB.out).1;have m5:wc.cell? ⟨bq,5,none⟩=some (.slice Ac u.contents.length cpc):=Zb hbq 5 _ rfl;have lbq:=lt_of_cell m5;have hkd:=(S3.out.cell 0 ((Om:0<9)) rfl).1;have k4:wc.cell? ⟨kd,4,none⟩=some (.slice B4 k cb4):=Zb hkd 4 _ rfl;have lkd:=lt_of_cell k4;obtain⟨ic,hic,ic0,ic1,ic2⟩:=info_parts Gu;have C4:=Qn (w:=wc.drew) (DT.Ty.ext strs HPQ.out.2 SD.out.fr) Om;clear hbq hkd;have hSD:wc.drew.cell? ⟨kd,4,none⟩=some (.slice B4 k cb4)/\wc.drew.cell? ⟨bq,5,none⟩=some (.slice Ac u.contents.length cpc):=⟨k4,m5⟩;refine Ya 12 13 #[false,false,false,false,false,false,false,false,false,false,false,false,false] (λW=>W.cell? ⟨kd,4,none⟩=some (.slice B4 k cb4)/\W.cell? ⟨bq,5,none⟩=some (.slice Ac u.contents.length cpc)) mixed rfl rfl (hSD) (λhS=>?_);refine WL.go [(0,79),(1,80),(2,81),(3,82),(4,83),(5,84),(6,85)] ?_;iterate 7 (refine WL.tk (v:=?_) rfl rfl Kr (λ_ _ _ h=>h) (Or.inl ⟨Rf,?_⟩) (by assumption) ?_;rotate_left;(focus (intro w hSw;(try obtain⟨s0,s1⟩:=hSw);go_simp;(try with_reducible rfl)));simp only[Act.put,Sa,Sb1,Sc])
        refine WZ.one (i:=7) rfl Kr (by decide) (λK hK=>?_);go_simp;go_wp2_with (go_at_call 101;refine C4.mono ?_;rintro e w8 ⟨c,rfl,hc8,hx8⟩;obtain⟨Ad,cd,ec,_⟩:=id hc8;cases ec;have s8:=SD.out.ext hx8;obtain⟨cs5,ho5,up5⟩:=s8.rowD (SD.out.st.up.keep hx8 (λ_ _ _=>id)) SD.out.le 7 ((Om:7<9)) rfl HK4.out hc8;have HO5:=Hd ho5;have UP5:=Hd up5;have h8:w8.cell? ⟨kd,4,none⟩=some (.slice B4 k cb4)/\w8.cell? ⟨bq,5,none⟩=some (.slice Ac u.contents.length cpc):=⟨hx8.cell k4 id,hx8.cell m5 id⟩;clear s8 ho5 up5 hc8 hx8);refine hK.out _ _ (h8) (λhSr14_7=>?_);clear hK K;try simp only[Act.put,Sa,Sb1,Sc]
        refine WZ.one (i:=8) rfl Kr (by decide) (λK hK=>?_);go_simp;refine hK.out _ _ (⟨((Fe w8).alloc _).cell h8.1 id,((Fe w8).alloc _).cell h8.2 id⟩) (λhSr14_8=>?_);clear hK K;try simp only[Act.put,Sa,Sb1,Sc]
        refine WZ.one (i:=9) rfl Kr (by decide) (λK hK=>?_);refine Z9 Rf _ _ 103 Rf 0 34 ic _ 1 24 Tryz.underlying103 hic ic0 ic1 ic2 Rf (by decide) (.slice B4 k cb4) k _ Rf (HO5.out.alloc _) ⟨w8.heap.size,0,none⟩ 1 1 [.slice Ad u.contents.length cd] Rf Rf (Z0 _ _) (by intro x hx;rw[List.mem_singleton.1 hx];rfl) (by unfold maxLen;omega) Om (Nat.zero_le _) ?_;intro v' w6 hown' hgrow hnil' hat;obtain⟨B4',c4',hv'⟩:=Zl hown';subst hv';have S6:=Hd (UP5.out _ _ _ hgrow hown' hat);have hk6:=(S6.out.cell 0 ((Om:0<9)) rfl).1;have c60:w6.cell? ⟨kd,4,none⟩=some (.slice B4 k cb4):=Zb hk6 4 _ rfl;have f60:=Zi hk6 4;have l6:=lt_of_cell c60;have hq6:=(S6.out.cell 8 ((Om:8<9)) HPB.out).1;have h6:=Ai1 c60 (Zb hq6 5 (.slice Ac u.contents.length cpc) rfl);clear hown' hgrow hat hnil' hk6 hq6;refine hK.out _ _ (h6) (λhSr14_9=>?_);clear hK K;try simp only[Act.put,Sa,Sb1,Sc]
        refine WL.go [(10,89),(11,90)] ?_;iterate 2 (refine WL.tk (v:=?_) rfl rfl Kr (λ_ _ _ h=>h) (Or.inl ⟨Rf,?_⟩) (by assumption) ?_;rotate_left;(focus (intro w hSw;(try obtain⟨s0,s1⟩:=hSw);go_simp;(try with_reducible rfl)));simp only[Act.put,Sa,Sb1,Sc])
        refine WZ.last rfl Kr Kr (λK hK=>?_);go_simp;refine hK.out _ _ ?_;clear hK K;go_wp2_with fail
        go_roundg (ws.length-(k+1))
        case measure=>omega
        case rel=>exact⟨k+1,.slice B0' (k+1) c0',.slice B1' (k+1) c1',.slice B4' (k+1) c4',by go_num,Om,Om,by
         have:=(S6.out.cell 0 ((Om:0<9)) rfl).2 4 (.slice B4' (k+1) c4');rw[<- E1.out.2.2.2.1]at this
         exact Sx.init (l:=Su d ws kd mm cc mp (k+1) (k+1) (k+1) (k+1) (k+1) (.slice Bk' (k+1) ck') (.slice B0' (k+1) c0') (.slice B1' (k+1) c1') (.slice B4' (k+1) c4')) this⟩
    ·obtain rfl:k=ws.length:=Om
     go_wp2_with fail
     go_meet
     case rel=>exact⟨v0,v1,v4,ST⟩
  case rest =>
   obtain⟨v0,v1,v4,S1⟩:=hcut;clear S0 hm0 hmm RW RW2;generalize u7=vk at S1;have hT1:ws.take ws.length=ws:=List.take_length;unfold Su at S1;rw[hT1]at S1;go_step;refine wp_seq_k λK hK=>?_
   have C5:=Aj mp (Z8 ws ws.length) wc (S1.out.map 3 ((Om:3<8)) rfl).1 (by have:=HNT.out ws.length (Nl _);omega);obtain⟨NL,hNL⟩:∃ NL,NL=(Z8 ws ws.length).length+1:=⟨_,rfl⟩;rw[<- hNL]at C5;have HNL:=Hd hNL;clear hT1 hNL;go_upto_region 17 with (first|(go_at_call 183;refine C5.mono ?_;rintro e w8 ⟨gl,fl,rfl,hg,hrow,h0,h1,hx⟩;have H8:=Hd (Ai1 hg (Ai1 hrow (Ai1 h0 (Ai1 h1 hx))));have hk8:=hx.heap (S1.out.cell 0 ((Om:0<8)) rfl).1 id;have z2:w8.cell? ⟨kd,2,none⟩=some Zw:=Zb hk8 2 _ rfl;have f2:=Zi hk8 2;have l8:=lt_of_cell z2;clear hg hrow h0 h1 hx hk8)|fail)
   have S2:Hid (Sx w2.heap.size w2 (Z4 d ws kd mm cc mp gl vk v0 v1 v4 (Yg v0 v1 (.slice (some ⟨gl,0,none⟩) NL NL) mm v4 0 0 Zw Zw (.map none) Zw cc Zw Zw Zw (.map none) (.map none) (.map none) Zw) (λ_=>.int .u8 0)) (w8.setCell ⟨kd,2,none⟩ (.slice (some ⟨gl,0,none⟩) NL NL))):=by
    obtain⟨hg,hrow,h0,h1,hx⟩:=H8.out;rw[HNL.out]at hrow⊢;have:=S1.out.snoc hx (Pn gl 9 ((Z8 ws ws.length).length+1) (Zag (Z8 ws ws.length))) (λb=>b=gl) ⟨Zh8 hrow h0 h1,rfl⟩ (λb hb=>by rw[hb];exact⟨hg,hrow.lt⟩);exact (this.cell 0 ((Om:0<9)) rfl).2 2 (.slice (some ⟨gl,0,none⟩) ((Z8 ws ws.length).length+1) ((Z8 ws ws.length).length+1))
   clear z2 f2 l8 H8 C5;generalize w8.setCell _ _=w9 at S2⊢;have hb9:=S2.out.fr.heap KB2.out id;have b1:w9.cell? ⟨bd,1,none⟩=some (.int .i64 d.rows):=Zb hb9 1 _ rfl;have b2:w9.cell? ⟨bd,2,none⟩=some (.int .i64 d.cols):=Zb hb9 2 _ rfl;have hk9:=(S2.out.cell 0 ((Om:0<9)) rfl).1;have z5:w9.cell? ⟨kd,5,none⟩=some (.int .i64 0):=Zb hk9 5 _ rfl;have z6:w9.cell? ⟨kd,6,none⟩=some (.int .i64 0):=Zb hk9 6 _ rfl;have z7:w9.cell? ⟨kd,7,none⟩=some Zw:=Zb hk9 7 _ rfl;have f9:=Zi hk9;have l9:=lt_of_cell z5;have l9b:=lt_of_cell b1;clear hb9 hk9;go_upto_region 18 with fail
   have S3:Hid (Sx w2.heap.size w2 (Z4 d ws kd mm cc mp gl vk v0 v1 v4 (Yg v0 v1 (.slice (some ⟨gl,0,none⟩) NL NL) mm v4 d.rows d.cols Zw Zw (.map none) Zw cc Zw Zw Zw (.map none) (.map none) (.map none) Zw) (λ_=>.int .u8 0)) (((w9.setCell ⟨kd,5,none⟩ (.int .i64 d.rows)).setCell ⟨kd,6,none⟩ (.int .i64 d.cols)).setCell ⟨kd,7,none⟩ Zw)):=by
    have q1:=(S2.out.cell 0 ((Om:0<9)) rfl).2 5 (.int .i64 d.rows);have q2:=(q1.cell 0 ((Om:0<9)) rfl).2 6 (.int .i64 d.cols);exact (q2.cell 0 ((Om:0<9)) rfl).2 7 Zw
   clear z5 z6 z7 f9 l9 l9b b1 b2 S2;generalize World.setCell (World.setCell (World.setCell w9 _ _) _ _) _ _=w10 at S3⊢;have hb10:=S3.out.fr.heap KB2.out id;have b3:w10.cell? ⟨bd,3,none⟩=some (.slice A2 d.costs.length c2):=Zb hb10 3 _ rfl;have l10:=lt_of_cell b3;clear hb10;have HDM:=Hd (Wu HD.out.2)
   have hcl:d.costs.length<=4096:=by
    obtain⟨h1,h2,h3,_⟩:=HDM.out;have:d.rows*d.cols<=64*64:=Int.mul_le_mul Om Om Om Om;omega
   go_upto_block 2 with fail
   go_cut [] from 110 to 126 (λwx=>∃ v7,Hid (Sx w2.heap.size w2 (Z4 d ws kd mm cc mp gl vk v0 v1 v4 (Yg v0 v1 (.slice (some ⟨gl,0,none⟩) NL NL) mm v4 d.rows d.cols v7 Zw (.map none) Zw cc Zw Zw Zw (.map none) (.map none) (.map none) Zw) (λ_=>.int .u8 0)++[Yn 176 1 v7 d.costs.length (Wm d.costs)]) wx))
   case first =>
    go_wp2_with fail
    go_loopg [109] d.costs.length (λg1 vi wr=>∃ (k:Nat) (v7:Value),vi=.int .i64 k/\k<=d.costs.length/\d.costs.length<=k+g1/\Hid (Sx w2.heap.size w2 (Z4 d ws kd mm cc mp gl vk v0 v1 v4 (Yg v0 v1 (.slice (some ⟨gl,0,none⟩) NL NL) mm v4 d.rows d.cols v7 Zw (.map none) Zw cc Zw Zw Zw (.map none) (.map none) (.map none) Zw) (λ_=>.int .u8 0)++[Yn 176 1 v7 k (Wm (d.costs.take k))]) wr))
    case atStart=>exact⟨0,Zw,rfl,Om,Om,S3.out.add0 _ ⟨World.ownsRow_nil _ _ _ _,λb e=>by cases e⟩⟩
    case round =>
     clear S3 b3 l10;obtain⟨k,v7,rfl,hk,hg,ST⟩:=hrel;by_cases hlt:k<d.costs.length
     ·have hltz:(k:Int)<d.costs.length:=Om;obtain⟨b,o,rfl,_,lb,e0,_⟩:=Zcq (Z3 HP.out.2.1.2.2 (X2.out.then ST.out.fr)) k hlt;have hux:=Ju HD.out.2 _ (List.getElem_mem hlt);have E1:=Hd (Za8 d.costs k hlt);generalize hx:d.costs[k]=u at e0 hux E1;clear hx;obtain⟨B7,c7',ek⟩:=Zl (ST.out.row 9 ((Om:9<10)) rfl).1;subst ek;go_upto_region 21 with fail
      have hkd:=(ST.out.cell 0 ((Om:0<10)) rfl).1;have k7:wr.cell? ⟨kd,7,none⟩=some (.slice B7 k c7'):=Zb hkd 7 _ rfl;have lkd:=lt_of_cell k7;have HR:=Hd (ST.out.row 9 ((Om:9<10)) rfl).1;obtain⟨im,him,im0,im1,im2⟩:=info_parts Zlh;have w1:IntKind.i16.wrap u=u:=by rw[Oh];omega
      clear hkd
      go_wp2_with (first
       | (at_builtin;refine wpList_append_own_at _ rfl _ _ 213 rfl 0 176 im _ 1 2 Tryz.underlying213 him im0 im1 im2 rfl (by decide) _ k _ rfl (HR.out.alloc _) ⟨wr.heap.size,0,none⟩ 1 1 [.int .i16 u] rfl rfl (Z0 _ _) (by intro x hx;rw[List.mem_singleton.1 hx];rfl) (by unfold maxLen;omega) Om (Nat.zero_le _) ?_;intro v' w6 hown' hgrow hnil' hat;obtain⟨B7',c7'',hv'⟩:=Zl hown';subst hv';have S6:=Hd ((ST.out.row 9 ((Om:9<10)) rfl).2 hgrow hown' hat);have hk6:=(S6.out.cell 0 ((Om:0<10)) rfl).1;have c60:w6.cell? ⟨kd,7,none⟩=some (.slice B7 k c7'):=Zb hk6 7 _ rfl;have f60:=Zi hk6 7;have l6:=lt_of_cell c60;clear hown' hgrow hat hnil' hk6)
       | fail)
      go_roundg (d.costs.length-(k+1))
      case measure=>omega
      case rel=>exact⟨k+1,.slice B7' (k+1) c7'',by go_num,Om,Om,by
       have:=(S6.out.cell 0 ((Om:0<10)) rfl).2 7 (.slice B7' (k+1) c7'');rw[<- E1.out]at this
       exact this⟩
     ·obtain rfl:k=d.costs.length:=Om
      go_wp2_with fail
      go_meet
      case rel=>exact⟨v7,by have:=ST;rw[List.take_length]at this;exact this⟩
   case rest =>
    obtain⟨v7,S4⟩:=hcut;clear S3 b3 l10
    have HWK:Hid (∀ x∈ws.map GWord.surface,Ws x=true):=λx hx=>by
     obtain⟨u,hu,rfl⟩:=List.mem_map.1 hx;exact (Te HD.out.2 u (HW.out u hu)).2.2.2
    have hsum:R8 (ws.map GWord.surface)<=50000:=by
     have h1:=HD.out.1.sum;rw[HWD.out]
     have:R8 ((Zu d).map GWord.surface)=R8 (d.words.map GWord.surface):=by
      unfold R8 Zu;exact (((Zy Vu d.words).map GWord.surface).map _).sum_nat
     omega
    have C6:=Ia (ws.map GWord.surface) vk ws.length wc (by simp) (by
     have:=(S4.out.row 4 ((Om:4<10)) rfl).1;rw[List.map_map]
     exact this) (by rw[HWD.out];exact Of d.words) (λx hx=>(Y4 (HWK.out x hx)).2.1) (by simp;omega) (λx hx=>(Y4 (HWK.out x hx)).1) hsum
    clear hsum;go_step;go_upto_region 27 with (first|(go_at_call 184;refine C6.mono ?_;rintro e w8 ⟨hx,gx,nx,mb,rfl,hg1,hg2,hidx⟩;have H8:=Hd (Ai1 hx (Ai1 hg1 (Ai1 hg2 hidx)));have hk8:=hx.heap (S4.out.cell 0 ((Om:0<10)) rfl).1 id;have z8:w8.cell? ⟨kd,8,none⟩=some Zw:=Zb hk8 8 _ rfl;have z9:w8.cell? ⟨kd,9,none⟩=some (.map none):=Zb hk8 9 _ rfl;have f2:=Zi hk8;have l8:=lt_of_cell z8;clear hg1 hg2 hidx hx hk8)|fail)
    have S5:Hid (Sx w2.heap.size w2 (Z4 d ws kd mm cc mp gl vk v0 v1 v4 (Yg v0 v1 (.slice (some ⟨gl,0,none⟩) NL NL) mm v4 d.rows d.cols v7 (.slice (some ⟨gx,0,none⟩) nx nx) (.map (some mb)) Zw cc Zw Zw Zw (.map none) (.map none) (.map none) Zw) (λ_=>.int .u8 0)++[Yn 176 1 v7 d.costs.length (Wm d.costs),Uj gx nx mb (ws.map GWord.surface)]) (((w8.setCell ⟨kd,8,none⟩ (.slice (some ⟨gx,0,none⟩) nx nx)).setCell ⟨kd,9,none⟩ (.map (some mb))).alloc (.cells #[.slice (some ⟨gx,0,none⟩) nx nx,.map (some mb)] 219))):=by
     obtain⟨hx,hg1,hg2,hidx⟩:=H8.out
     have q0:=(S4.out.snoc hx (Uj gx nx mb (ws.map GWord.surface)) (λb=>b=gx\/b=mb) ⟨hidx,.inl rfl,.inr rfl⟩ (λb hb=>by
      have:=hidx.lt;rcases hb with rfl|rfl
      ·exact⟨hg1,this.1⟩
      ·exact⟨hg2,this.2⟩))
     have q1:=(q0.cell 0 ((Om:0<11)) rfl).2 8 (.slice (some ⟨gx,0,none⟩) nx nx);exact ((q1.cell 0 ((Om:0<11)) rfl).2 9 (.map (some mb))).ext ((Fl _).alloc _)
    clear z8 z9 f2 l8 H8 C6 S4;generalize World.alloc (World.setCell (World.setCell w8 _ _) _ _) _=w9 at S5⊢;have hb9:=S5.out.fr.heap KB2.out id;have b4:w9.cell? ⟨bd,4,none⟩=some (.slice A3 d.classes.length c3):=Zb hb9 4 _ rfl;have l9:=lt_of_cell b4;have hcl12:d.classes.length<=12:=HDM.out.2.2.2.2;clear hb9
    go_upto_block 4 with fail
    go_cut [] from 142 to 178 (λwx=>∃ v10 v12 v13,Hid (Sx w2.heap.size w2 (Z4 d ws kd mm cc mp gl vk v0 v1 v4 (Yg v0 v1 (.slice (some ⟨gl,0,none⟩) NL NL) mm v4 d.rows d.cols v7 (.slice (some ⟨gx,0,none⟩) nx nx) (.map (some mb)) v10 cc v12 v13 Zw (.map none) (.map none) (.map none) Zw) (λ_=>.int .u8 0)++[Yn 176 1 v7 d.costs.length (Wm d.costs),Uj gx nx mb (ws.map GWord.surface),Yn 9 1 v10 d.classes.length (d.classes.map λc=>Value.string c.name),Yn 4 1 v12 d.classes.length (d.classes.map λc=>Value.bool c.invoke),Yn 4 1 v13 d.classes.length (d.classes.map λc=>Value.bool c.group)]) wx))
    case first =>
     go_wp2_with fail
     go_loopg [141] d.classes.length (λg1 vi wr=>∃ (k:Nat) (v10 v12 v13:Value),vi=.int .i64 k/\k<=d.classes.length/\d.classes.length<=k+g1/\Hid (Sx w2.heap.size w2 (Z4 d ws kd mm cc mp gl vk v0 v1 v4 (Yg v0 v1 (.slice (some ⟨gl,0,none⟩) NL NL) mm v4 d.rows d.cols v7 (.slice (some ⟨gx,0,none⟩) nx nx) (.map (some mb)) v10 cc v12 v13 Zw (.map none) (.map none) (.map none) Zw) (λ_=>.int .u8 0)++[Yn 176 1 v7 d.costs.length (Wm d.costs),Uj gx nx mb (ws.map GWord.surface),Yn 9 1 v10 k ((d.classes.take k).map λc=>Value.string c.name),Yn 4 1 v12 k ((d.classes.take k).map λc=>Value.bool c.invoke),Yn 4 1 v13 k ((d.classes.take k).map λc=>Value.bool c.group)]) wr))
     case atStart=>exact⟨0,Zw,Zw,Zw,rfl,Om,Om,((S5.out.add0 (Yn 9 1 Zw 0 []) ⟨World.ownsRow_nil _ _ _ _,λb e=>by cases e⟩).add0 (Yn 4 1 Zw 0 []) ⟨World.ownsRow_nil _ _ _ _,λb e=>by cases e⟩).add0 (Yn 4 1 Zw 0 []) ⟨World.ownsRow_nil _ _ _ _,λb e=>by cases e⟩⟩
     case round =>
      clear S5 b4 l9;obtain⟨k,v10,v12,v13,rfl,hk,hg,ST⟩:=hrel;by_cases hlt:k<d.classes.length
      ·have hltz:(k:Int)<d.classes.length:=Om;obtain⟨b,o,rfl,_,lb,e0,e1,e2⟩:=Zje (Z3 HP.out.2.2.1.2.2 (X2.out.then ST.out.fr)) k hlt;have E1:=Hd (Ai1 (J7 (λc:Tm=>Value.string c.name) d.classes k hlt) (Ai1 (J7 (λc:Tm=>Value.bool c.invoke) d.classes k hlt) (J7 (λc:Tm=>Value.bool c.group) d.classes k hlt)));generalize hx:d.classes[k]=u at e0 e1 e2 E1;clear hx;obtain⟨B10,c10,ek0⟩:=Zl (ST.out.row 11 ((Om:11<14)) rfl).1;obtain⟨B12,c12,ek1⟩:=Zl (ST.out.row 12 ((Om:12<14)) rfl).1;obtain⟨B13,c13,ek2⟩:=Zl (ST.out.row 13 ((Om:13<14)) rfl).1;subst ek0 ek1 ek2;go_upto_region 30 with fail
       have SB:=Hd (ST.out.box #[.string u.name,.bool u.invoke,.bool u.group] 166);clear e0 e1 e2 ST lb;generalize wr.alloc _=wc at SB⊢;generalize wr.heap.size=bq at SB⊢;obtain⟨PB,hPB⟩:∃ PB,PB=Tj bq #[.string u.name,.bool u.invoke,.bool u.group] 166:=⟨_,rfl⟩;rw[<- hPB]at SB;have HPB:=Hd hPB;clear hPB
       go_cut [] from 145 to 155 (λwx=>∃ B10' cB10',Hid (Sx w2.heap.size w2 (Z4 d ws kd mm cc mp gl vk v0 v1 v4 (Yg v0 v1 (.slice (some ⟨gl,0,none⟩) NL NL) mm v4 d.rows d.cols v7 (.slice (some ⟨gx,0,none⟩) nx nx) (.map (some mb)) (.slice B10' (k+1) cB10') cc (.slice B12 k c12) (.slice B13 k c13) Zw (.map none) (.map none) (.map none) Zw) (λ_=>.int .u8 0)++[Yn 176 1 v7 d.costs.length (Wm d.costs),Uj gx nx mb (ws.map GWord.surface),Yn 9 1 (.slice B10' (k+1) cB10') (k+1) ((d.classes.take (k+1)).map λc=>Value.string c.name),Yn 4 1 (.slice B12 k c12) k ((d.classes.take k).map λc=>Value.bool c.invoke),Yn 4 1 (.slice B13 k c13) k ((d.classes.take k).map λc=>Value.bool c.group)]++[PB]) wx))
       case first =>
        have SD:=Hd (SB.out.ext ((Fl wc).drew));have hbq:=(SB.out.cell 14 ((Om:14<15)) HPB.out).1;have m0:wc.cell? ⟨bq,0,none⟩=some (.string u.name):=Zb hbq 0 _ rfl;have lbq:=lt_of_cell m0;have hkd:=(SB.out.cell 0 ((Om:0<15)) rfl).1;have k0:wc.cell? ⟨kd,10,none⟩=some (.slice B10 k c10):=Zb hkd 10 _ rfl;have lkd:=lt_of_cell k0;have HR:=Hd (SD.out.row 11 ((Om:11<15)) rfl).1;obtain⟨im,him,im0,im1,im2⟩:=info_parts U7;clear hbq hkd;have hSD:wc.drew.cell? ⟨kd,10,none⟩=some (.slice B10 k c10)/\wc.drew.cell? ⟨bq,0,none⟩=some (.string u.name):=⟨k0,m0⟩;refine Ya 11 12 #[false,false,false,false,false,false,false,false,false,false,false,false] (λW=>W.cell? ⟨kd,10,none⟩=some (.slice B10 k c10)/\W.cell? ⟨bq,0,none⟩=some (.string u.name)) mixed rfl rfl (hSD) (λhS=>?_);refine WL.go [(0,145),(1,146),(2,147),(3,148),(4,149),(5,150),(6,151)] ?_;iterate 7 (refine WL.tk (v:=?_) rfl rfl Kr (λ_ _ _ h=>h) (Or.inl ⟨Rf,?_⟩) (by assumption) ?_;rotate_left;(focus (intro w hSw;(try obtain⟨s0,s1⟩:=hSw);go_simp;(try with_reducible rfl)));simp only[Act.put,Sa,Sb1,Sc])
        refine WZ.one (i:=7) rfl Kr (by decide) (λK hK=>?_);go_simp;refine hK.out _ _ (⟨((Fe wc).drew.alloc _).cell k0 id,((Fe wc).drew.alloc _).cell m0 id⟩) (λhSr30_7=>?_);clear hK K;try simp only[Act.put,Sa,Sb1,Sc]
        refine WZ.one (i:=8) rfl Kr (by decide) (λK hK=>?_);refine Z9 Rf _ _ 220 Rf 0 9 im _ 1 16 Tryz.underlying220 him im0 im1 im2 Rf (by decide) (.slice B10 k c10) k _ Rf (HR.out.alloc _) ⟨wc.heap.size,0,none⟩ 1 1 [.string u.name] Rf Rf (Z0 _ _) (by intro x hx;rw[List.mem_singleton.1 hx];rfl) (by unfold maxLen;omega) Om (Nat.zero_le _) ?_;intro v' w6 hown' hgrow hnil' hat;obtain⟨B10',cB10',hv'⟩:=Zl hown';subst hv';have S6:=Hd ((SD.out.row 11 ((Om:11<15)) rfl).2 hgrow hown' hat);have hk6:=(S6.out.cell 0 ((Om:0<15)) rfl).1;have c60:w6.cell? ⟨kd,10,none⟩=some (.slice B10 k c10):=Zb hk6 10 _ rfl;have f60:=Zi hk6 10;have l6:=lt_of_cell c60;have hq6:=(S6.out.cell 14 ((Om:14<15)) HPB.out).1;have h6:=Ai1 c60 (Zb hq6 0 (.string u.name) rfl);clear hown' hgrow hat hnil' hk6 hq6;refine hK.out _ _ (h6) (λhSr30_8=>?_);clear hK K;try simp only[Act.put,Sa,Sb1,Sc]
        refine WL.go [(9,154),(10,155)] ?_;iterate 2 (refine WL.tk (v:=?_) rfl rfl Kr (λ_ _ _ h=>h) (Or.inl ⟨Rf,?_⟩) (by assumption) ?_;rotate_left;(focus (intro w hSw;(try obtain⟨s0,s1⟩:=hSw);go_simp;(try with_reducible rfl)));simp only[Act.put,Sa,Sb1,Sc])
        refine WZ.last rfl Kr Kr (λK hK=>?_);go_simp;refine hK.out _ _ ?_;clear hK K;go_wp2_with fail
        go_meet
        case rel=>exact⟨B10',cB10',by
         have:=(S6.out.cell 0 ((Om:0<15)) rfl).2 10 (.slice B10' (k+1) cB10');rw[<- E1.out.1]at this
         exact this⟩
       case rest =>
        obtain⟨B10',cB10',SB2⟩:=hcut;clear SB
        rename Hid _=>SB
        go_step;refine wp_seq_k λK hK=>?_
        go_cut [] from 156 to 166 (λwx=>∃ B12' cB12',Hid (Sx w2.heap.size w2 (Z4 d ws kd mm cc mp gl vk v0 v1 v4 (Yg v0 v1 (.slice (some ⟨gl,0,none⟩) NL NL) mm v4 d.rows d.cols v7 (.slice (some ⟨gx,0,none⟩) nx nx) (.map (some mb)) (.slice B10' (k+1) cB10') cc (.slice B12' (k+1) cB12') (.slice B13 k c13) Zw (.map none) (.map none) (.map none) Zw) (λ_=>.int .u8 0)++[Yn 176 1 v7 d.costs.length (Wm d.costs),Uj gx nx mb (ws.map GWord.surface),Yn 9 1 (.slice B10' (k+1) cB10') (k+1) ((d.classes.take (k+1)).map λc=>Value.string c.name),Yn 4 1 (.slice B12' (k+1) cB12') (k+1) ((d.classes.take (k+1)).map λc=>Value.bool c.invoke),Yn 4 1 (.slice B13 k c13) k ((d.classes.take k).map λc=>Value.bool c.group)]++[PB]) wx))
        case first =>
         have SD:=Hd (SB.out.ext ((Fl wc).drew));have hbq:=(SB.out.cell 14 ((Om:14<15)) HPB.out).1;have m0:wc.cell? ⟨bq,1,none⟩=some (.bool u.invoke):=Zb hbq 1 _ rfl;have lbq:=lt_of_cell m0;have hkd:=(SB.out.cell 0 ((Om:0<15)) rfl).1;have k0:wc.cell? ⟨kd,12,none⟩=some (.slice B12 k c12):=Zb hkd 12 _ rfl;have lkd:=lt_of_cell k0;have HR:=Hd (SD.out.row 12 ((Om:12<15)) rfl).1;obtain⟨im,him,im0,im1,im2⟩:=info_parts Gw;clear hbq hkd;have hSD:wc.drew.cell? ⟨kd,12,none⟩=some (.slice B12 k c12)/\wc.drew.cell? ⟨bq,1,none⟩=some (.bool u.invoke):=⟨k0,m0⟩;refine Ya 11 12 #[false,false,false,false,false,false,false,false,false,false,false,false] (λW=>W.cell? ⟨kd,12,none⟩=some (.slice B12 k c12)/\W.cell? ⟨bq,1,none⟩=some (.bool u.invoke)) mixed rfl rfl (hSD) (λhS=>?_);refine WL.go [(0,156),(1,157),(2,158),(3,159),(4,160),(5,161),(6,162)] ?_;iterate 7 (refine WL.tk (v:=?_) rfl rfl Kr (λ_ _ _ h=>h) (Or.inl ⟨Rf,?_⟩) (by assumption) ?_;rotate_left;(focus (intro w hSw;(try obtain⟨s0,s1⟩:=hSw);go_simp;(try with_reducible rfl)));simp only[Act.put,Sa,Sb1,Sc])
         refine WZ.one (i:=7) rfl Kr (by decide) (λK hK=>?_);go_simp;refine hK.out _ _ (⟨((Fe wc).drew.alloc _).cell k0 id,((Fe wc).drew.alloc _).cell m0 id⟩) (λhSr31_7=>?_);clear hK K;try simp only[Act.put,Sa,Sb1,Sc]
         refine WZ.one (i:=8) rfl Kr (by decide) (λK hK=>?_);refine Z9 Rf _ _ 222 Rf 0 4 im _ 1 1 Tryz.underlying222 him im0 im1 im2 Rf (by decide) (.slice B12 k c12) k _ Rf (HR.out.alloc _) ⟨wc.heap.size,0,none⟩ 1 1 [.bool u.invoke] Rf Rf (Z0 _ _) (by intro x hx;rw[List.mem_singleton.1 hx];rfl) (by unfold maxLen;omega) Om (Nat.zero_le _) ?_;intro v' w6 hown' hgrow hnil' hat;obtain⟨B12',cB12',hv'⟩:=Zl hown';subst hv';have S6:=Hd ((SD.out.row 12 ((Om:12<15)) rfl).2 hgrow hown' hat);have hk6:=(S6.out.cell 0 ((Om:0<15)) rfl).1;have c60:w6.cell? ⟨kd,12,none⟩=some (.slice B12 k c12):=Zb hk6 12 _ rfl;have f60:=Zi hk6 12;have l6:=lt_of_cell c60;have hq6:=(S6.out.cell 14 ((Om:14<15)) HPB.out).1;have h6:=Ai1 c60 (Zb hq6 1 (.bool u.invoke) rfl);clear hown' hgrow hat hnil' hk6 hq6;refine hK.out _ _ (h6) (λhSr31_8=>?_);clear hK K;try simp only[Act.put,Sa,Sb1,Sc]
         refine WL.go [(9,165),(10,166)] ?_;iterate 2 (refine WL.tk (v:=?_) rfl rfl Kr (λ_ _ _ h=>h) (Or.inl ⟨Rf,?_⟩) (by assumption) ?_;rotate_left;(focus (intro w hSw;(try obtain⟨s0,s1⟩:=hSw);go_simp;(try with_reducible rfl)));simp only[Act.put,Sa,Sb1,Sc])
         refine WZ.last rfl Kr Kr (λK hK=>?_);go_simp;refine hK.out _ _ ?_;clear hK K;go_wp2_with fail
         go_meet
         case rel=>exact⟨B12',cB12',by
          have:=(S6.out.cell 0 ((Om:0<15)) rfl).2 12 (.slice B12' (k+1) cB12');rw[<- E1.out.2.1]at this
          exact this⟩
        case rest =>
         obtain⟨B12',cB12',SB2⟩:=hcut;clear SB
         rename Hid _=>SB
         go_step;have SD:=Hd (SB.out.ext ((Fl wc).drew));have hbq:=(SB.out.cell 14 ((Om:14<15)) HPB.out).1;have m0:wc.cell? ⟨bq,2,none⟩=some (.bool u.group):=Zb hbq 2 _ rfl;have lbq:=lt_of_cell m0;have hkd:=(SB.out.cell 0 ((Om:0<15)) rfl).1;have k0:wc.cell? ⟨kd,13,none⟩=some (.slice B13 k c13):=Zb hkd 13 _ rfl;have lkd:=lt_of_cell k0;have HR:=Hd (SD.out.row 13 ((Om:13<15)) rfl).1;obtain⟨im,him,im0,im1,im2⟩:=info_parts Gw;clear hbq hkd;have hSD:wc.drew.cell? ⟨kd,13,none⟩=some (.slice B13 k c13)/\wc.drew.cell? ⟨bq,2,none⟩=some (.bool u.group):=⟨k0,m0⟩;refine Ya 11 12 #[false,false,false,false,false,false,false,false,false,false,false,false] (λW=>W.cell? ⟨kd,13,none⟩=some (.slice B13 k c13)/\W.cell? ⟨bq,2,none⟩=some (.bool u.group)) mixed rfl rfl (hSD) (λhS=>?_);refine WL.go [(0,167),(1,168),(2,169),(3,170),(4,171),(5,172),(6,173)] ?_;iterate 7 (refine WL.tk (v:=?_) rfl rfl Kr (λ_ _ _ h=>h) (Or.inl ⟨Rf,?_⟩) (by assumption) ?_;rotate_left;(focus (intro w hSw;(try obtain⟨s0,s1⟩:=hSw);go_simp;(try with_reducible rfl)));simp only[Act.put,Sa,Sb1,Sc])
         refine WZ.one (i:=7) rfl Kr (by decide) (λK hK=>?_);go_simp;refine hK.out _ _ (⟨((Fe wc).drew.alloc _).cell k0 id,((Fe wc).drew.alloc _).cell m0 id⟩) (λhSr32_7=>?_);clear hK K;try simp only[Act.put,Sa,Sb1,Sc]
         refine WZ.one (i:=8) rfl Kr (by decide) (λK hK=>?_);refine Z9 Rf _ _ 223 Rf 0 4 im _ 1 1 Tryz.underlying223 him im0 im1 im2 Rf (by decide) (.slice B13 k c13) k _ Rf (HR.out.alloc _) ⟨wc.heap.size,0,none⟩ 1 1 [.bool u.group] Rf Rf (Z0 _ _) (by intro x hx;rw[List.mem_singleton.1 hx];rfl) (by unfold maxLen;omega) Om (Nat.zero_le _) ?_;intro v' w6 hown' hgrow hnil' hat;obtain⟨B13',cB13',hv'⟩:=Zl hown';subst hv';have S6:=Hd ((SD.out.row 13 ((Om:13<15)) rfl).2 hgrow hown' hat);have hk6:=(S6.out.cell 0 ((Om:0<15)) rfl).1;have c60:w6.cell? ⟨kd,13,none⟩=some (.slice B13 k c13):=Zb hk6 13 _ rfl;have f60:=Zi hk6 13;have l6:=lt_of_cell c60;have hq6:=(S6.out.cell 14 ((Om:14<15)) HPB.out).1;have h6:=Ai1 c60 (Zb hq6 2 (.bool u.group) rfl);clear hown' hgrow hat hnil' hk6 hq6;refine hK.out _ _ (h6) (λhSr32_8=>?_);clear hK K;try simp only[Act.put,Sa,Sb1,Sc]
         refine WL.go [(9,176),(10,177)] ?_;iterate 2 (refine WL.tk (v:=?_) rfl rfl Kr (λ_ _ _ h=>h) (Or.inl ⟨Rf,?_⟩) (by assumption) ?_;rotate_left;(focus (intro w hSw;(try obtain⟨s0,s1⟩:=hSw);go_simp;(try with_reducible rfl)));simp only[Act.put,Sa,Sb1,Sc])
         refine WZ.last rfl Kr Kr (λK hK=>?_);go_simp;refine hK.out _ _ ?_;clear hK K;go_wp2_with fail
         go_roundg (d.classes.length-(k+1))
         case measure=>omega
         case rel=>exact⟨k+1,.slice B10' (k+1) cB10',.slice B12' (k+1) cB12',.slice B13' (k+1) cB13',by go_num,Om,Om,by
          have:=(S6.out.cell 0 ((Om:0<15)) rfl).2 13 (.slice B13' (k+1) cB13');rw[<- E1.out.2.2]at this
          exact Sx.init (l:=Z4 d ws kd mm cc mp gl vk v0 v1 v4 (Yg v0 v1 (.slice (some ⟨gl,0,none⟩) NL NL) mm v4 d.rows d.cols v7 (.slice (some ⟨gx,0,none⟩) nx nx) (.map (some mb)) (.slice B10' (k+1) cB10') cc (.slice B12' (k+1) cB12') (.slice B13' (k+1) cB13') Zw (.map none) (.map none) (.map none) Zw) (λ_=>.int .u8 0)++[Yn 176 1 v7 d.costs.length (Wm d.costs),Uj gx nx mb (ws.map GWord.surface),Yn 9 1 (.slice B10' (k+1) cB10') (k+1) ((d.classes.take (k+1)).map λc=>Value.string c.name),Yn 4 1 (.slice B12' (k+1) cB12') (k+1) ((d.classes.take (k+1)).map λc=>Value.bool c.invoke),Yn 4 1 (.slice B13' (k+1) cB13') (k+1) ((d.classes.take (k+1)).map λc=>Value.bool c.group)]) this⟩
      ·obtain rfl:k=d.classes.length:=Om
       go_wp2_with fail
       go_meet
       case rel=>exact⟨v10,v12,v13,by have:=ST;simp only[List.take_length]at this;exact this⟩
    case rest =>
     obtain⟨v10,v12,v13,S6⟩:=hcut;clear S5 b4 l9;go_step;have hb9:=S6.out.fr.heap KB2.out id;have b5:wc.cell? ⟨bd,5,none⟩=some (.slice A4 d.chars.length c4):=Zb hb9 5 _ rfl;have l9:=lt_of_cell b5;have hch:=HD.out.1.chars;clear hb9
     go_upto_block 6 with fail
     go_cut [] from 183 to 203 (λwx=>Hid (Sx w2.heap.size w2 (Z4 d ws kd mm cc mp gl vk v0 v1 v4 (Yg v0 v1 (.slice (some ⟨gl,0,none⟩) NL NL) mm v4 d.rows d.cols v7 (.slice (some ⟨gx,0,none⟩) nx nx) (.map (some mb)) v10 cc v12 v13 Zw (.map none) (.map none) (.map none) Zw) (λr=>.int .u8 (U9 d.chars r))++[Yn 176 1 v7 d.costs.length (Wm d.costs),Uj gx nx mb (ws.map GWord.surface),Yn 9 1 v10 d.classes.length (d.classes.map λc=>Value.string c.name),Yn 4 1 v12 d.classes.length (d.classes.map λc=>Value.bool c.invoke),Yn 4 1 v13 d.classes.length (d.classes.map λc=>Value.bool c.group)]) wx))
     case first =>
      go_wp2_with fail
      go_loopg [182] d.chars.length (λg1 vi wr=>∃ (k:Nat),vi=.int .i64 k/\k<=d.chars.length/\d.chars.length<=k+g1/\Hid (Sx w2.heap.size w2 (Z4 d ws kd mm cc mp gl vk v0 v1 v4 (Yg v0 v1 (.slice (some ⟨gl,0,none⟩) NL NL) mm v4 d.rows d.cols v7 (.slice (some ⟨gx,0,none⟩) nx nx) (.map (some mb)) v10 cc v12 v13 Zw (.map none) (.map none) (.map none) Zw) (λr=>.int .u8 (U9 (d.chars.take k) r))++[Yn 176 1 v7 d.costs.length (Wm d.costs),Uj gx nx mb (ws.map GWord.surface),Yn 9 1 v10 d.classes.length (d.classes.map λc=>Value.string c.name),Yn 4 1 v12 d.classes.length (d.classes.map λc=>Value.bool c.invoke),Yn 4 1 v13 d.classes.length (d.classes.map λc=>Value.bool c.group)]) wr))
      case atStart=>exact⟨0,rfl,Om,Om,S6⟩
      case round =>
       clear S6 b5 l9;obtain⟨k,rfl,hk,hg,ST⟩:=hrel;by_cases hlt:k<d.chars.length
       ·have hltz:(k:Int)<d.chars.length:=Om;obtain⟨b,o,rfl,_,lb,e0,e1,e2⟩:=Zbf (Z3 HP.out.2.2.2.1.2.2 (X2.out.then ST.out.fr)) k hlt;have hux:=Ly HD.out.2 _ (List.getElem_mem hlt);have E1:=Hd (Zgn d.chars k hlt);generalize hx:d.chars[k]=u at e0 e1 e2 E1 hux;clear hx;obtain⟨ln,hln⟩:∃ ln:Nat,u.lo=(ln:Int):=⟨u.lo.toNat,Om⟩;obtain⟨hn,hhn⟩:∃ hn:Nat,u.hi=(hn:Int):=⟨u.hi.toNat,Om⟩;obtain⟨cn,hcn⟩:∃ cn:Nat,u.cls=(cn:Int):=⟨u.cls.toNat,Om⟩;rw[hln]at e0;rw[hhn]at e1;rw[hcn]at e2;have q1:ln<=65535:=Om;have q2:hn<=65535:=Om;have q3:cn<12:=Om;simp only[hln,hhn,hcn]at E1;clear hux hln hhn hcn;go_upto_region 37 with fail
        have SB:=Hd (ST.out.box #[.int .i64 ln,.int .i64 hn,.int .i64 cn] 121);clear e0 e1 e2 ST lb;generalize wr.alloc _=wq at SB⊢;generalize wr.heap.size=bq at SB⊢;obtain⟨PB,hPB⟩:∃ PB,PB=Tj bq #[.int .i64 ln,.int .i64 hn,.int .i64 cn] 121:=⟨_,rfl⟩;rw[<- hPB]at SB;have HPB:=Hd hPB;clear hPB;obtain⟨m,hm⟩:∃ m,m=hn+1-ln:=⟨_,rfl⟩;have hbq:=(SB.out.cell 14 ((Om:14<15)) HPB.out).1;have m0:wq.cell? ⟨bq,0,none⟩=some (.int .i64 ln):=Zb hbq 0 _ rfl;have lbq:=lt_of_cell m0;clear hbq;go_wp2_with fail
        go_loopg [18] m (λg2 vr wr=>∃ (t:Nat),vr=.int .i64 ((ln+t:Nat):Int)/\t<=m/\m<=t+g2/\Hid (Sx w2.heap.size w2 (Z4 d ws kd mm cc mp gl vk v0 v1 v4 (Yg v0 v1 (.slice (some ⟨gl,0,none⟩) NL NL) mm v4 d.rows d.cols v7 (.slice (some ⟨gx,0,none⟩) nx nx) (.map (some mb)) v10 cc v12 v13 Zw (.map none) (.map none) (.map none) Zw) (λx=>.int .u8 (if ln<=x/\x<ln+t then (cn:Int) else U9 (d.chars.take k) x))++[Yn 176 1 v7 d.costs.length (Wm d.costs),Uj gx nx mb (ws.map GWord.surface),Yn 9 1 v10 d.classes.length (d.classes.map λc=>Value.string c.name),Yn 4 1 v12 d.classes.length (d.classes.map λc=>Value.bool c.invoke),Yn 4 1 v13 d.classes.length (d.classes.map λc=>Value.bool c.group)]++[PB]) wr))
        case atStart=>exact⟨0,rfl,Om,Om,by
         have e:(λx:Nat=>Value.int .u8 (if ln<=x/\x<ln+0 then (cn:Int) else U9 (d.chars.take k) x))=λx=>.int .u8 (U9 (d.chars.take k) x):=by
          funext x;rw[if_neg Om]
         rw[e]
         exact SB⟩
        case round =>
         clear SB m0 lbq;obtain⟨t,rfl,ht,hg2,SZ⟩:=hrel;have hbq:=(SZ.out.cell 14 ((Om:14<15)) HPB.out).1;have m1:wr.cell? ⟨bq,1,none⟩=some (.int .i64 hn):=Zb hbq 1 _ rfl;have m2:wr.cell? ⟨bq,2,none⟩=some (.int .i64 cn):=Zb hbq 2 _ rfl;have lbq:=lt_of_cell m1;clear hbq;by_cases hle:t<m
         ·have hlez:((ln+t:Nat):Int)<=(hn:Int):=Om;have hkd:=(SZ.out.cell 0 ((Om:0<15)) rfl).1;have k11:wr.cell? ⟨kd,11,none⟩=some (.slice (some ⟨cc,0,none⟩) 65536 65536):=Zb hkd 11 _ rfl;have lkd:=lt_of_cell k11;have hrow:=(SZ.out.block 2 ((Om:2<15)) rfl).1;have hcell:=hrow.cell ((Om:ln+t<65536));have hfz:=hrow.frozen (ln+t);have lcc:=lt_of_cell hcell
          have wcn:IntKind.u8.wrap (cn:Int)=(cn:Int):=by
           simp[IntKind.wrap,IntKind.bits,IntKind.signed];omega
          have g0:(0:Int)<=((ln+t:Nat):Int):=Om;have g1:((ln+t:Nat):Int)<65536:=Om;obtain⟨r,hr⟩:∃ r,r=ln+t:=⟨_,rfl⟩;rw[<- hr]at hlez hcell hfz g0 g1 lcc⊢;have HR:=Hd hr;clear hkd hrow hr;go_upto_region 40 with fail
          have hSD:wr.drew.cell? ⟨kd,11,none⟩=some (.slice (some ⟨cc,0,none⟩) 65536 65536)/\wr.drew.cell? ⟨bq,2,none⟩=some (.int .i64 cn):=⟨k11,m2⟩;refine Ya 9 10 #[false,false,false,false,false,false,false,false,false,false] (λW=>W.cell? ⟨kd,11,none⟩=some (.slice (some ⟨cc,0,none⟩) 65536 65536)/\W.cell? ⟨bq,2,none⟩=some (.int .i64 cn)) mixed rfl rfl (hSD) (λhS=>?_);refine WL.go [(0,194),(1,195),(2,196),(3,197),(4,198),(5,199),(6,200),(7,201),(8,202)] ?_;iterate 9 (refine WL.tk (v:=?_) rfl rfl Kr (λ_ _ _ h=>h) (Or.inl ⟨Rf,?_⟩) (by assumption) ?_;rotate_left;(focus (intro w hSw;(try obtain⟨s0,s1⟩:=hSw);go_simp;(try with_reducible rfl)));simp only[Act.put,Sa,Sb1,Sc])
          refine WZ.last rfl Kr Kr (λK hK=>?_);go_simp;refine hK.out _ _ ?_;clear hK K;go_wp2_with fail
          go_roundg (m-(t+1))
          case measure=>omega
          case rel=>exact⟨t+1,by rw[HR.out];go_num,Om,Om,by
           have:=((SZ.out.ext (Fl wr).drew).block 2 ((Om:2<15)) rfl).2 r (.int .u8 cn)
           have e:(λx:Nat=>if x=r then Value.int .u8 (cn:Int) else Value.int .u8 (if ln<=x/\x<ln+t then (cn:Int) else U9 (d.chars.take k) x))=λx=>.int .u8 (if ln<=x/\x<ln+(t+1) then (cn:Int) else U9 (d.chars.take k) x):=by
            funext x;have:=HR.out;by_cases hx:x=r
            ·rw[if_pos hx,if_pos Om]
            ·rw[if_neg hx];by_cases hy:ln<=x/\x<ln+t
             ·rw[if_pos hy,if_pos Om]
             ·rw[if_neg hy,if_neg Om]
           rw[<- e]
           exact this⟩
         ·have hlez:¬ ((ln+t:Nat):Int)<=(hn:Int):=Om;go_wp2_with fail
          go_roundg (d.chars.length-(k+1))
          case measure=>omega
          case rel=>exact⟨k+1,by go_num,Om,Om,by
           have e:(λx:Nat=>Value.int .u8 (U9 (d.chars.take (k+1)) x))=λx=>.int .u8 (if ln<=x/\x<ln+t then (cn:Int) else U9 (d.chars.take k) x):=by
            funext x;rw[E1.out x];by_cases hy:ln<=x/\x<ln+t
            ·rw[if_pos hy,if_pos Om]
            ·rw[if_neg hy,if_neg Om]
           have:=SZ.out;rw[<- e]at this
           exact Sx.init (l:=Z4 d ws kd mm cc mp gl vk v0 v1 v4 (Yg v0 v1 (.slice (some ⟨gl,0,none⟩) NL NL) mm v4 d.rows d.cols v7 (.slice (some ⟨gx,0,none⟩) nx nx) (.map (some mb)) v10 cc v12 v13 Zw (.map none) (.map none) (.map none) Zw) (λr=>.int .u8 (U9 (d.chars.take (k+1)) r))++[Yn 176 1 v7 d.costs.length (Wm d.costs),Uj gx nx mb (ws.map GWord.surface),Yn 9 1 v10 d.classes.length (d.classes.map λc=>Value.string c.name),Yn 4 1 v12 d.classes.length (d.classes.map λc=>Value.bool c.invoke),Yn 4 1 v13 d.classes.length (d.classes.map λc=>Value.bool c.group)]) this⟩
       ·obtain rfl:k=d.chars.length:=Om
        go_wp2_with fail
        go_meet
        case rel=>exact (by have:=ST;simp only[List.take_length]at this;exact this)
     case rest =>
      have S7:Hid (Sx w2.heap.size w2 (Z4 d ws kd mm cc mp gl vk v0 v1 v4 (Yg v0 v1 (.slice (some ⟨gl,0,none⟩) NL NL) mm v4 d.rows d.cols v7 (.slice (some ⟨gx,0,none⟩) nx nx) (.map (some mb)) v10 cc v12 v13 Zw (.map none) (.map none) (.map none) Zw) (λr=>.int .u8 (U9 d.chars r))++[Yn 176 1 v7 d.costs.length (Wm d.costs),Uj gx nx mb (ws.map GWord.surface),Yn 9 1 v10 d.classes.length (d.classes.map λc=>Value.string c.name),Yn 4 1 v12 d.classes.length (d.classes.map λc=>Value.bool c.invoke),Yn 4 1 v13 d.classes.length (d.classes.map λc=>Value.bool c.group)]) wc):=hcut;clear S6 b5 l9;have hW:Zu d=ws:=HWD.out.symm;go_step;have XW:Zf w wc:=X2.out.then S7.out.fr;have C8:=Fx d _ O wc (tDict.ext H.out.1 XW) (Bz HD.out.2 HD.out.1) (λm hm=>Ou HD.out.2 m (List.mem_append_right _ hm)) (by have:=HD.out.1.metaU;omega);have hb9:=S7.out.fr.heap KB2.out id;have b0:wc.cell? ⟨bd,0,none⟩=some (.slice A1 d.words.length c1):=Zb hb9 0 _ rfl;have b1:wc.cell? ⟨bd,1,none⟩=some (.int .i64 d.rows):=Zb hb9 1 _ rfl;have b2:wc.cell? ⟨bd,2,none⟩=some (.int .i64 d.cols):=Zb hb9 2 _ rfl;have b3:wc.cell? ⟨bd,3,none⟩=some (.slice A2 d.costs.length c2):=Zb hb9 3 _ rfl;have b4:wc.cell? ⟨bd,4,none⟩=some (.slice A3 d.classes.length c3):=Zb hb9 4 _ rfl;have b5:wc.cell? ⟨bd,5,none⟩=some (.slice A4 d.chars.length c4):=Zb hb9 5 _ rfl;have b6:wc.cell? ⟨bd,6,none⟩=some (.slice A5 d.unknown.length c5):=Zb hb9 6 _ rfl;have b7:wc.cell? ⟨bd,7,none⟩=some (.slice A6 d.meta0.length c6):=Zb hb9 7 _ rfl;have b8:wc.cell? ⟨bd,8,none⟩=some (.slice A7 d.unkMeta.length c7):=Zb hb9 8 _ rfl;have b9:wc.cell? ⟨bd,9,none⟩=some (.bool d.hasUser):=Zb hb9 9 _ rfl;have b10:wc.cell? ⟨bd,10,none⟩=some (.slice A8 d.user.length c8):=Zb hb9 10 _ rfl;have lb:=lt_of_cell b0;clear hb9 XW;go_upto_region 43 with (first|(go_at_call 47;refine C8.mono ?_;rintro e w8 ⟨ko,mi,md,mu,u0,u4,rfl,hx,hst⟩;obtain⟨U0,n0,cu0,rfl⟩:∃ A n c,u0=Value.slice A n c:=(by obtain⟨_,⟨ho,_⟩,_⟩:=hst.get 1 ((Om:1<6));obtain⟨A,c,e⟩:=Zl ho;exact⟨A,_,c,e⟩);obtain⟨U4,n4,cu4,rfl⟩:∃ A n c,u4=Value.slice A n c:=(by obtain⟨_,⟨_,_,ho,_⟩,_⟩:=hst.get 5 ((Om:5<6));obtain⟨A,c,e⟩:=Zl ho;exact⟨A,_,c,e⟩);have H8:=Hd (Ai1 hx hst);have hk8:=hx.heap (S7.out.cell 0 ((Om:0<14)) rfl).1 id;have y0:w8.cell? ⟨kd,14,none⟩=some Zw:=Zb hk8 14 _ rfl;have y1:w8.cell? ⟨kd,15,none⟩=some (.map none):=Zb hk8 15 _ rfl;have y2:w8.cell? ⟨kd,16,none⟩=some (.map none):=Zb hk8 16 _ rfl;have y3:w8.cell? ⟨kd,17,none⟩=some (.map none):=Zb hk8 17 _ rfl;have y4:w8.cell? ⟨kd,18,none⟩=some Zw:=Zb hk8 18 _ rfl;have f8:=Zi hk8;have l8:=lt_of_cell y0;clear hx hst hk8)|fail)
      have S8:Hid (Sx w2.heap.size w2 (Zq d kd mm cc mp gl gx nx mb ko mi md mu vk v0 v1 v4 v7 v10 v12 v13 (.slice U0 n0 cu0) (.slice U4 n4 cu4)) (((((w8.setCell ⟨kd,14,none⟩ (.slice U0 n0 cu0)).setCell ⟨kd,15,none⟩ (.map (some mi))).setCell ⟨kd,16,none⟩ (.map (some md))).setCell ⟨kd,17,none⟩ (.map (some mu))).setCell ⟨kd,18,none⟩ (.slice U4 n4 cu4))):=by
       obtain⟨hx,hst⟩:=H8.out;have q0:=S7.out.app hx hst;have q1:=(q0.cell 0 ((Om:0<20)) rfl).2 14 (.slice U0 n0 cu0);have q2:=(q1.cell 0 ((Om:0<20)) rfl).2 15 (.map (some mi));have q3:=(q2.cell 0 ((Om:0<20)) rfl).2 16 (.map (some md));have q4:=(q3.cell 0 ((Om:0<20)) rfl).2 17 (.map (some mu));have q5:=(q4.cell 0 ((Om:0<20)) rfl).2 18 (.slice U4 n4 cu4);have e:=HNL.out;unfold Zq;rw[hW,<- e];exact q5
      clear y0 y1 y2 y3 y4 f8 l8 b0 b1 b2 b3 b4 b5 b6 b7 b8 b9 b10 lb H8 C8 S7;generalize World.setCell (World.setCell (World.setCell (World.setCell (World.setCell w8 _ _) _ _) _ _) _ _) _ _=w9 at S8⊢;go_wp2_with fail
      first|go_ret|go_ret2
      refine⟨kd,w9.heap.size,rfl,⟨mm,cc,mp,gl,gx,nx,mb,ko,mi,md,mu,vk,v0,v1,v4,v7,v10,v12,v13,.slice U0 n0 cu0,.slice U4 n4 cu4,?_⟩,X2.out.then S8.out.fr⟩;exact (S8.out.st.base X2.out.size).up
end Go.Proofs.YtlfoalomaofejaaGreatDoor
