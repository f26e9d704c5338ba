/- laws.FnDetailsUser: the walk. -/
import Derived.Test.YtoliamijgmifkaaGreatDoorH42
import Derived.Test.YtoliamijgmifkaaGreatDoorH47
import Derived.Test.YtoliamijgmifkaaGreatDoorH48
set_option linter.all false
set_option maxRecDepth 100000
set_option maxHeartbeats 2000000
namespace Go.Proofs.YtoliamijgmifkaaGreatDoor
open Go.RowKit DT SS TR LT
theorem Zfu(d:Zj)(cs:List Value)(O:Nat->Prop)(s:ByteArray)(mode:Int)(w:World)(h:tDict.R w O d cs)(hs:s.size<=9223372036854775807)(hT:Di w)(hb:∀ u∈d.user,total u.tokens<=1048576/\total u.yomi<=1048576) :
  Calls Tryz.prog 4 #[.agg cs.toArray,.string s,.int .i64 mode] w λe w'=>e=.returned (.bool true)/\Zg w w':=by
 have mixed:Tryz.prog.follows .mixedOrders=true:=Kr
 have H:=Hd (Ai1 h hT);have CF:=Hd (λW (f:Zg w W)=>Tr W O d cs (tDict.ext h f));obtain⟨A1,c1,A2,c2,A3,c3,A4,c4,A5,c5,A6,c6,A7,c7,A8,c8,rfl,_,_,_,_,_,_,_,h8,_⟩:=Ye h;have HUS:=Hd h8.2.2;generalize hhu:d.hasUser=bu at *;have HHU:=Hd hhu;clear hhu;clear h8;clear h hT;have HBU:=Hd hb;have B0:=alloc_at w (.cells #[.slice A1 d.words.length c1,.int .i64 d.rows,.int .i64 d.cols,.slice A2 d.costs.length c2,.slice A3 d.classes.length c3,.slice A4 d.chars.length c4,.slice A5 d.unknown.length c5,.slice A6 d.meta0.length c6,.slice A7 d.unkMeta.length c7,.bool bu,.slice A8 d.user.length c8] 30);have HB:=Hd B0;clear B0
 cases hf:Yn d with
 | false =>
  rw[hf]at CF;clear hf;go_enter Tryz.func4,Tryz.ntmps4
  go_wp2_with (first
   | (go_at_call 9;refine (CF.out _ ((Fl w).alloc _)).mono ?_;rintro e w1 ⟨rfl,hx⟩;have HX:=Hd hx;clear hx)
   | fail)
  go_ret;exact⟨rfl,((Fl w).alloc _).then HX.out⟩
 | true =>
  rw[hf]at CF;by_cases hl:s.size<=2147483647
  ·have CG:=Hd (λW (f:Zg w W) A c (ha:Ty.str.At W (λ_=>True) A [s])=>J3 W O (λ_=>True) d _ A c [s] (tDict.ext H.out.1 f) hf (H.out.2.ext f).u8 ha);have HF:=Hd hf;clear hf;go_enter Tryz.func4,Tryz.ntmps4
   go_upto_region 3 with (first
    | (go_at_call 9;refine (CF.out _ ((Fl w).alloc _)).mono ?_;rintro e w1 ⟨rfl,hx⟩;have HX:=Hd hx;clear hx)
    | fail)
   have k0:∀ (W:World),Zg w1 W->∀ j u,(#[Value.slice A1 d.words.length c1,.int .i64 d.rows,.int .i64 d.cols,.slice A2 d.costs.length c2,.slice A3 d.classes.length c3,.slice A4 d.chars.length c4,.slice A5 d.unknown.length c5,.slice A6 d.meta0.length c6,.slice A7 d.unkMeta.length c7,.bool bu,.slice A8 d.user.length c8])[j]?=some u->W.cell? ⟨w.heap.size,j,none⟩=some u:=λW f j u hj=>Zb (f.heap (HX.out.heap HB.out id) id) j u hj
   have KC:Hid (∀ (W:World),Zg w1 W->W.cell? ⟨w.heap.size,0,none⟩=some (.slice A1 d.words.length c1)/\W.cell? ⟨w.heap.size,1,none⟩=some (.int .i64 d.rows)/\W.cell? ⟨w.heap.size,2,none⟩=some (.int .i64 d.cols)/\W.cell? ⟨w.heap.size,3,none⟩=some (.slice A2 d.costs.length c2)/\W.cell? ⟨w.heap.size,4,none⟩=some (.slice A3 d.classes.length c3)/\W.cell? ⟨w.heap.size,5,none⟩=some (.slice A4 d.chars.length c4)/\W.cell? ⟨w.heap.size,6,none⟩=some (.slice A5 d.unknown.length c5)/\W.cell? ⟨w.heap.size,7,none⟩=some (.slice A6 d.meta0.length c6)/\W.cell? ⟨w.heap.size,8,none⟩=some (.slice A7 d.unkMeta.length c7)/\W.cell? ⟨w.heap.size,9,none⟩=some (.bool bu)/\W.cell? ⟨w.heap.size,10,none⟩=some (.slice A8 d.user.length c8)/\w.heap.size<W.heap.size):=λW f =>
    ⟨k0 W f 0 _ rfl,k0 W f 1 _ rfl,k0 W f 2 _ rfl,k0 W f 3 _ rfl,k0 W f 4 _ rfl,k0 W f 5 _ rfl,k0 W f 6 _ rfl,k0 W f 7 _ rfl,k0 W f 8 _ rfl,k0 W f 9 _ rfl,k0 W f 10 _ rfl,lt_of_cell (k0 W f 0 _ rfl)⟩
   have HX1:=Hd (((Fe w).alloc _).then HX.out);obtain⟨q0,q1,q2,q3,q4,q5,q6,q7,q8,q9,q10,ql⟩:=KC.out w1 (Fl w1);clear k0 HX HB CF
   cases hfi:Tn d [s] with
   | false =>
    rw[hfi]at CG;clear hfi
    go_wp2_with (first
     | (go_at_call 10;refine (CG.out _ (HX1.out.alloc _) _ _ (Xr w1 s hs)).mono ?_;rintro e w2 ⟨rfl,hx⟩;have HY2:=Hd ((HX1.out.alloc _).then hx);clear hx)
     | (go_at_call 11;refine (Y9 _ (H.out.2.ext HY2.out).u8).mono ?_;rintro e w3 ⟨rfl,hx⟩;have HY3:=Hd (HY2.out.then hx);clear hx)
     | fail)
    go_ret;exact⟨rfl,HY3.out⟩
   | true =>
    rw[hfi]at CG;obtain⟨⟨hrd,hsz⟩,hr,hd,hu,hul⟩:=J2 hfi HF.out
    cases bu with
    | false =>
     clear hrd hsz hr hd hu hul hfi
     go_wp2_with (first
      | (go_at_call 10;refine (CG.out _ (HX1.out.alloc _) _ _ (Xr w1 s hs)).mono ?_;rintro e w2 ⟨rfl,hx⟩;clear q0 q1 q2 q3 q4 q5 q6 q7 q8 q9 q10 ql;obtain⟨q0,q1,q2,q3,q4,q5,q6,q7,q8,q9,q10,ql⟩:=KC.out _ (((Fl w1).alloc _).then hx);have HY2:=Hd ((HX1.out.alloc _).then hx);clear hx)
      | (go_at_call 11;refine (Y9 _ (H.out.2.ext HY2.out).u8).mono ?_;rintro e w3 ⟨rfl,hx⟩;have HY3:=Hd (HY2.out.then hx);clear hx)
      | fail)
     go_ret;exact⟨rfl,HY3.out⟩
    | true =>
    rw[HHU.out,if_pos rfl]at hul;obtain⟨TL,hTL⟩:∃ TL,TL=Xn (Zz d (Vg d)) false (Wu mode) s:=⟨_,rfl⟩;have CA:=Hd (λW (f:Zg w W)=>Va d _ O (Vg d) (xOf d) (Uh hu) s hrd hsz mode false W (tDict.ext H.out.1 f) (H.out.2.ext f).u8 hd hr (Xp d _ O W (tDict.ext H.out.1 f) (H.out.2.ext f) hd hr hu));have CB:=Hd (λW (f:Zg w W)=>Rp d _ O (Vg d) (xOf d) (usL d) s hrd hsz mode W (tDict.ext H.out.1 f) (H.out.2.ext f) (H.out.2.ext f).u8 hd hr (Xp d _ O W (tDict.ext H.out.1 f) (H.out.2.ext f) hd hr hu) (λW v kd H U ku w' ha=>Gp hfi HF.out hb ha) (Re hr hd _ _ (Rk hu) hrd hsz false (Wu mode)) (Vl hr hd _ (Uh hu) hrd hsz false (Wu mode)));have HIN:=Hd (Re hr hd _ _ (Rk hu) hrd hsz false (Wu mode));have hlen:=Vl hr hd _ (Uh hu) hrd hsz false (Wu mode);rw[<- hTL]at CA CB hlen HIN;clear hrd hsz hr hd hu hfi hTL HF;obtain⟨us,hus2⟩:∃ us,us=usL d:=⟨_,rfl⟩;rw[<- hus2]at CB HIN;have HUE:Hid (us=d.user):=hus2.trans hul;clear hus2 hul;obtain⟨n,hne⟩:∃ n,n=TL.length:=⟨_,rfl⟩;have HN:=Hd hne;rw[<- hne]at hlen;clear hne
    go_upto_region 7 with (first
     | (go_at_call 10;refine (CG.out _ (HX1.out.alloc _) _ _ (Xr w1 s hs)).mono ?_;rintro e w2 ⟨rfl,hx⟩;clear q0 q1 q2 q3 q4 q5 q6 q7 q8 q9 q10 ql;obtain⟨q0,q1,q2,q3,q4,q5,q6,q7,q8,q9,q10,ql⟩:=KC.out _ (((Fl w1).alloc _).then hx);have HY2:=Hd (((Fe w1).alloc _).then hx);clear hx)
     | (go_at_call 12;refine (CA.out _ (HX1.out.then HY2.out)).mono ?_;rintro e w3 ⟨vl,rfl,hrl,hx⟩;clear q0 q1 q2 q3 q4 q5 q6 q7 q8 q9 q10 ql;obtain⟨q0,q1,q2,q3,q4,q5,q6,q7,q8,q9,q10,ql⟩:=KC.out _ (HY2.out.then hx);have HY3:=Hd (HY2.out.then hx);clear hx;rw[<- HN.out]at hrl;obtain⟨Al,cl,el⟩:=Zn hrl;subst el;have HRL:=Hd hrl;clear hrl)
     | (go_at_call 13;refine (CB.out _ (HX1.out.then HY3.out)).mono ?_;rintro e w4 ⟨vm,rfl,hrm,hx⟩;obtain⟨Am,cm,em⟩:=hrm.own;rw[List.length_map,<- HN.out]at em;subst em;have HRM:=Hd (Ai1 (Zu HRL.out hx (λ_ _ e=>e)) hrm);have HY4:=Hd (HY3.out.then hx);clear hx hrm HRL)
     | fail)
    clear q0 q1 q2 q3 q4 q5 q6 q7 q8 q9 q10 ql CG CA CB;go_wp2_with fail
    go_loopg [62] n (λg1 v62 wr=>∃ i:Nat,v62=.int .i64 (i:Int)/\i<=n/\n<=i+g1/\Hid (Zg w4 wr))
    case atStart=>exact⟨0,rfl,Om,Om,Fl _⟩
    case round =>
     obtain⟨i,rfl,hi,hg,HR⟩:=hrel;by_cases hlt:i<n
     ·have hlz:(i:Int)<(n:Int):=Om;have hz0:(0:Int)<=(i:Int):=Om;have hil:i<TL.length:=by rw[<- HN.out];exact hlt
      obtain⟨gl,rfl,ll,hcl⟩:=Znc HRM.out.1 HR.out (λ_ _ _ e=>e) HN.out i hil;obtain⟨bm,om,csm,rfl,lm,hrm,hcm⟩:=(HRM.out.2.ext HR.out).elem i (by rw[List.length_map];exact hil);rw[List.getElem_map]at hrm;have HTI:=Hd (HIN.out TL[i] (List.getElem_mem hil));generalize TL[i]=t at *;obtain⟨vF,vP,vT,vY,rfl,hF,hP,hTk,hYm⟩:=hrm;have q0:wr.cell? ⟨gl,i*7,none⟩=some (.int .i64 t.index):=hcl 0 Om;have q1:wr.cell? ⟨gl,i*7+1,none⟩=some (.int .i64 t.id):=hcl 1 Om;have q2:wr.cell? ⟨gl,i*7+2,none⟩=some (.int .i64 t.cls):=hcl 2 Om;have q3:wr.cell? ⟨gl,i*7+3,none⟩=some (.int .i64 t.pos):=hcl 3 Om;have q4:wr.cell? ⟨gl,i*7+4,none⟩=some (.int .i64 t.start):=hcl 4 Om;have q5:wr.cell? ⟨gl,i*7+5,none⟩=some (.int .i64 t.fin):=hcl 5 Om;have q6:wr.cell? ⟨gl,i*7+6,none⟩=some (.string t.surf):=hcl 6 Om;have m0:wr.cell? ⟨bm,om+i*20,none⟩=some vF:=hcm 0 (by show 0<20;omega);have m1:wr.cell? ⟨bm,om+i*20+1,none⟩=some vP:=hcm 1 (by show 1<20;omega);have m12:wr.cell? ⟨bm,om+i*20+12,none⟩=some (.bool (Wr us t).isSome):=hcm 12 (by show 12<20;omega);have m13:wr.cell? ⟨bm,om+i*20+13,none⟩=some vT:=hcm 13 (by show 13<20;omega);have m14:wr.cell? ⟨bm,om+i*20+14,none⟩=some vY:=hcm 14 (by show 14<20;omega);have HMM:=Hd (Ai1 (Ai1 m0 m1) (Ai1 m13 m14));have HSR:=Hd (Ai1 (Ai1 hF hP) (Ai1 hTk hYm));clear hcl hcm m0 m1 m13 m14 hF hP hTk hYm;go_upto_region 12 with fail
      obtain⟨tb,htb⟩:∃ tb,tb=wr.heap.size:=⟨_,rfl⟩;rw[<- htb];have K1:=alloc_at' wr (.cells (Ru t).toArray 42) htb;have X1:Zg wr (wr.alloc (.cells (Ru t).toArray 42)):=(Fl wr).alloc _;have m12:=X1.cell m12 id;have HX5:=Hd X1;have HK1:=Hd K1;clear X1 K1 htb q0 q1 q2 q3 q4 q5 q6 ll lm;generalize World.alloc wr _=w5 at *;have HWW:=Hd ((HX1.out.then HY4.out).then HR.out |>.then HX5.out);have tc:=cell_of HK1.out 2 (.int .i64 (t.cls:Int)) rfl;have ltb:=lt_of_cell tc;have lm:=lt_of_cell m12;have hc4:t.cls=0\/t.cls=1\/t.cls=2\/t.cls=3:=by have:=HTI.out.cls;omega
      rcases hc4 with hc|hc|hc|hc
      iterate 3
       focus
        have e0:(Wr us t).isSome=false:=by unfold Wr;rw[if_neg Om];rfl
        rw[e0]at m12;rw[hc]at tc;clear hc e0;go_quiet (fail)
        go_wp2_with fail
        go_roundg (n-(i+1))
        case measure=>omega
        case rel=>exact⟨i+1,by go_num,Om,Om,(HR.out.then HX5.out).drewN _⟩
      obtain⟨q,hq,hqu⟩:=HTI.out.user hc;have hqd:q<d.user.length:=by rw[<- HUE.out];exact hqu
      obtain⟨ub,uo,vp,vq,hA8,_,_,ut,uy,_,_,u0,u1,u2,u3⟩:=Fy HUS.out q hqd;have hro:rOf us t=d.user[q]:=by unfold rOf;rw[hq,Int.toNat_natCast,HUE.out,List.getD_eq_getElem?_getD,Ge hqd];rfl
      have hbu:=HBU.out _ (List.getElem_mem hqd);generalize d.user[q]=r at *;obtain⟨AU,cU,rfl⟩:=Yf ut;obtain⟨AV,cV,rfl⟩:=Yf uy;obtain⟨⟨hF,hP⟩,hTk,hYm⟩:=HSR.out;obtain⟨⟨m0,m1⟩,m13,m14⟩:=HMM.out;have e0:(Wr us t).isSome=true:=by unfold Wr;rw[if_pos hc];rfl
      have e1:(Mb d us t).feats=[r.pos,We r.tokens,We r.yomi]:=by show Z8 d us t=_;unfold Z8;rw[if_neg Om,if_neg Om,if_pos hc,hro]
      have e2:(Mb d us t).pos=[r.pos]:=by show Vz d us t=_;unfold Vz;rw[if_neg Om,if_neg Om,if_pos hc,hro]
      have e3:((Mb d us t).extra.map (·.1)).getD []=r.tokens:=by show ((Wr us t).map _).getD []=_;unfold Wr;rw[if_pos hc,hro];rfl
      have e4:((Mb d us t).extra.map (·.2)).getD []=r.yomi:=by show ((Wr us t).map _).getD []=_;unfold Wr;rw[if_pos hc,hro];rfl
      rw[e1]at hF;rw[e2]at hP;rw[e3]at hTk;rw[e4]at hYm;rw[e0]at m12;rw[hc]at tc;obtain⟨AF,cF,rfl⟩:=Yf hF;obtain⟨AP,cP,rfl⟩:=Yf hP;obtain⟨AT,cT,rfl⟩:=Yf hTk;obtain⟨AY,cY,rfl⟩:=Yf hYm;have tc1:=cell_of HK1.out 1 (.int .i64 t.id) rfl;rw[hq]at tc1;have hq0:(0:Int)<=(q:Int):=Om;have hqi:(q:Int)<(d.user.length:Int):=Om;have m0:=HX5.out.cell m0 id;have m1:=HX5.out.cell m1 id;have m13:=HX5.out.cell m13 id;have m14:=HX5.out.cell m14 id;have HSS:=Hd (Ai1 (Ai1 (strs.ext hF HX5.out) (strs.ext hP HX5.out)) (Ai1 (Ai1 (strs.ext hTk HX5.out) (strs.ext hYm HX5.out)) (Ai1 (strs.ext ut HWW.out) (strs.ext uy HWW.out))));have u0:=HWW.out.cell u0 id;have u1:=HWW.out.cell u1 id;have u2:=HWW.out.cell u2 id;have u3:=HWW.out.cell u3 id;have lu:=lt_of_cell u0;obtain⟨_,_,_,_,_,_,_,_,_,_,e10,le⟩:=KC.out w5 ((HY4.out.then HR.out).then HX5.out);rw[hA8]at e10;clear hc e0 e1 e2 e3 e4 hro ut uy hF hP hTk hYm HSR HMM hA8 hq hqu hqd;have HB2:=Hd hbu;clear hbu;obtain⟨jt,hjt⟩:∃ jt,jt=We r.tokens:=⟨_,rfl⟩;obtain⟨jy,hjy⟩:∃ jy,jy=We r.yomi:=⟨_,rfl⟩;rw[<- hjt,<- hjy]at HSS;have hF:wr.cell? ⟨0,0,none⟩=wr.cell? ⟨0,0,none⟩:=rfl;clear hF;rw[<- hjt,<- hjy]at m0;have m0:w5.cell? ⟨bm,om+i*20,none⟩=some (.slice AF 3 cF):=m0;have m1:w5.cell? ⟨bm,om+i*20+1,none⟩=some (.slice AP 1 cP):=m1;have HJ:=Hd (Ai1 hjt hjy);have hsz:Hid (∀ x∈[r.pos,jt,jy],x.size<=9223372036854775807):=Vc HSS.out.1.1;clear hjt hjy;go_quiet (fail)
      have F1:Zg w5 (w5.drewN nq):=(Fl w5).drewN nq;have HX6:=Hd F1;have tc:=F1.cell tc id;have tc1:=F1.cell tc1 id;have m0:=F1.cell m0 id;have m1:=F1.cell m1 id;have m13:=F1.cell m13 id;have m14:=F1.cell m14 id;have u0:=F1.cell u0 id;have u1:=F1.cell u1 id;have u2:=F1.cell u2 id;have u3:=F1.cell u3 id;have e10:=F1.cell e10 id;have lb:=lt_of_cell m0;have lu:=lt_of_cell u0;have ltb:=lt_of_cell tc;have le:w.heap.size<(w5.drewN nq).heap.size:=lt_of_cell e10;clear F1 m12 lm;generalize World.drewN w5 nq=w6 at *;go_upto_region 16 with fail
      obtain⟨bx,hbx⟩:∃ bx,bx=w6.heap.size:=⟨_,rfl⟩;rw[<- hbx];have K7:=alloc_at' w6 (.cells #[.string r.text,.slice AU r.tokens.length cU,.slice AV r.yomi.length cV,.string r.pos] 53) hbx;have X7:Zg w6 (w6.alloc (.cells #[.string r.text,.slice AU r.tokens.length cU,.slice AV r.yomi.length cV,.string r.pos] 53)):=(Fl w6).alloc _;have HX7:=Hd (HX6.out.then X7)
      have HSW:Hid (∀ W,Zg (w6.alloc (.cells #[.string r.text,.slice AU r.tokens.length cU,.slice AV r.yomi.length cV,.string r.pos] 53)) W->Zg (w6.alloc (.cells #[.string r.text,.slice AU r.tokens.length cU,.slice AV r.yomi.length cV,.string r.pos] 53)) W/\W.cell? ⟨bm,om+i*20,none⟩=some (.slice AF 3 cF)/\W.cell? ⟨bm,om+i*20+1,none⟩=some (.slice AP 1 cP)/\W.cell? ⟨bm,om+i*20+13,none⟩=some (.slice AT r.tokens.length cT)/\W.cell? ⟨bm,om+i*20+14,none⟩=some (.slice AY r.yomi.length cY)/\W.cell? ⟨bx,1,none⟩=some (.slice AU r.tokens.length cU)/\W.cell? ⟨bx,2,none⟩=some (.slice AV r.yomi.length cV)/\W.cell? ⟨bx,3,none⟩=some (.string r.pos)/\bm<W.heap.size/\bx<W.heap.size):=λW f =>
       ⟨f,f.cell (X7.cell m0 id) id,f.cell (X7.cell m1 id) id,f.cell (X7.cell m13 id) id,f.cell (X7.cell m14 id) id,cell_of (f.heap K7 id) 1 _ rfl,cell_of (f.heap K7 id) 2 _ rfl,cell_of (f.heap K7 id) 3 _ rfl,Nat.lt_of_lt_of_le lb (Z0 X7 f).size,lt_of_cell (cell_of (f.heap K7 id) 1 _ rfl)⟩
      clear K7 X7 hbx m0 m1 m13 m14 tc tc1 u0 u1 u2 u3 lu lb ltb e10 le;generalize World.alloc w6 _=w7 at *;refine Yh 49 50 #[false,false,false,false,false,false,false,false,false,false,false,false,false,false,false,false,false,false,false,false,false,false,false,false,false,false,false,false,false,false,false,false,false,false,false,false,false,false,false,false,false,false,false,false,false,false,false,false,false,false] (λW=>Zg w7 W/\W.cell? ⟨bm,om+i*20,none⟩=some (.slice AF 3 cF)/\W.cell? ⟨bm,om+i*20+1,none⟩=some (.slice AP 1 cP)/\W.cell? ⟨bm,om+i*20+13,none⟩=some (.slice AT r.tokens.length cT)/\W.cell? ⟨bm,om+i*20+14,none⟩=some (.slice AY r.yomi.length cY)/\W.cell? ⟨bx,1,none⟩=some (.slice AU r.tokens.length cU)/\W.cell? ⟨bx,2,none⟩=some (.slice AV r.yomi.length cV)/\W.cell? ⟨bx,3,none⟩=some (.string r.pos)/\bm<W.heap.size/\bx<W.heap.size) mixed rfl rfl (HSW.out w7.drew (Fl w7).drew) (λhS=>?_);refine WL.go [(0,85),(1,86),(2,87),(3,88),(4,89),(5,90),(6,91)] ?_;iterate 7 (first|(refine WL.tk (v:=undef) rfl rfl Kr (λ_ _ _ h=>h) (Or.inr ⟨Rf,rfl⟩) (by assumption) ?_;simp only[Act.put,Sa,Sb1,Sc])|(refine WL.tk (v:=?_) rfl rfl Kr (λ_ _ _ h=>h) (Or.inl ⟨Rf,?_⟩) (by assumption) ?_;rotate_left;(focus (intro w hSw;(try obtain⟨sf,v0,v1,v13,v14,x1,x2,x3,lb,lx⟩:=hSw);go_simp;(try with_reducible rfl)));simp only[Act.put,Sa,Sb1,Sc]))
      first
      | (refine WZ.take (i:=7) (dst:=some 92) (v:=undef) rfl rfl Kr (λ_ _ _ h=>h) (Or.inr ⟨Rf,rfl⟩) (by assumption) ?_;simp only[Act.put,Sa,Sb1,Sc])
      | (refine WZ.one (i:=7) rfl Kr (by decide) (λK hK=>?_);go_simp;go_wp2_with (go_at_call 15;refine (V2 (strs.ext HSS.out.2.1.1 (HX7.out.then ((Fl w7).drew))) (strs.ext HSS.out.2.2.1 (HX7.out.then ((Fl w7).drew)))).mono ?_;rintro e wa ⟨rfl,hxa⟩);refine hK.out _ _ (HSW.out wa (((Fl w7).drew).then hxa)) (λhSr16_7=>?_);clear hK K;try simp only[Act.put,Sa,Sb1,Sc])
      refine WL.go [(8,93),(9,94),(10,95),(11,96),(12,97),(13,98),(14,99),(15,100),(16,101)] ?_;iterate 9 (first|(refine WL.tk (v:=undef) rfl rfl Kr (λ_ _ _ h=>h) (Or.inr ⟨Rf,rfl⟩) (by assumption) ?_;simp only[Act.put,Sa,Sb1,Sc])|(refine WL.tk (v:=?_) rfl rfl Kr (λ_ _ _ h=>h) (Or.inl ⟨Rf,?_⟩) (by assumption) ?_;rotate_left;(focus (intro w hSw;(try obtain⟨sf,v0,v1,v13,v14,x1,x2,x3,lb,lx⟩:=hSw);go_simp;(try with_reducible rfl)));simp only[Act.put,Sa,Sb1,Sc]))
      first
      | (refine WZ.take (i:=17) (dst:=some 102) (v:=undef) rfl rfl Kr (λ_ _ _ h=>h) (Or.inr ⟨Rf,rfl⟩) (by assumption) ?_;simp only[Act.put,Sa,Sb1,Sc])
      | (refine WZ.one (i:=17) rfl Kr (by decide) (λK hK=>?_);go_simp;go_wp2_with (go_at_call 15;refine (V2 (strs.ext HSS.out.2.1.2 (HX7.out.then hSr16_7.1)) (strs.ext HSS.out.2.2.2 (HX7.out.then hSr16_7.1))).mono ?_;rintro e wb ⟨rfl,hxb⟩);refine hK.out _ _ (HSW.out wb (hSr16_7.1.then hxb)) (λhSr16_17=>?_);clear hK K;try simp only[Act.put,Sa,Sb1,Sc])
      refine WL.go [(18,103),(19,104),(20,105),(21,106),(22,107),(23,108),(24,109),(25,110),(26,111),(27,112)] ?_;iterate 10 (first|(refine WL.tk (v:=undef) rfl rfl Kr (λ_ _ _ h=>h) (Or.inr ⟨Rf,rfl⟩) (by assumption) ?_;simp only[Act.put,Sa,Sb1,Sc])|(refine WL.tk (v:=?_) rfl rfl Kr (λ_ _ _ h=>h) (Or.inl ⟨Rf,?_⟩) (by assumption) ?_;rotate_left;(focus (intro w hSw;(try obtain⟨sf,v0,v1,v13,v14,x1,x2,x3,lb,lx⟩:=hSw);go_simp;(try with_reducible rfl)));simp only[Act.put,Sa,Sb1,Sc]))
      first
      | (refine WZ.take (i:=28) (dst:=some 113) (v:=undef) rfl rfl Kr (λ_ _ _ h=>h) (Or.inr ⟨Rf,rfl⟩) (by assumption) ?_;simp only[Act.put,Sa,Sb1,Sc])
      | (refine WZ.one (i:=28) rfl Kr (by decide) (λK hK=>?_);go_simp;refine hK.out _ _ (HSW.out _ (hSr16_17.1.alloc _)) (λhSr16_28=>?_);clear hK K;try simp only[Act.put,Sa,Sb1,Sc])
      first
      | (refine WZ.take (i:=29) (dst:=some 114) (v:=undef) rfl rfl Kr (λ_ _ _ h=>h) (Or.inr ⟨Rf,rfl⟩) (by assumption) ?_;simp only[Act.put,Sa,Sb1,Sc])
      | (refine WZ.one (i:=29) rfl Kr (by decide) (λK hK=>?_);go_simp;go_wp2_with (go_at_call 15;refine (V2 (strs.ext HSS.out.1.2 (HX7.out.then hSr16_28.1)) (Uj (xs:=[r.pos]) (alloc_at _ _) rfl (λx hx=>hsz.out x (by rw[List.mem_singleton.1 hx];simp)) (by show 1<=2000000;omega))).mono ?_;rintro e wc ⟨rfl,hxc⟩);refine hK.out _ _ (HSW.out wc (hSr16_28.1.then hxc)) (λhSr16_29=>?_);clear hK K;try simp only[Act.put,Sa,Sb1,Sc])
      refine WL.go [(30,115),(31,116),(32,117),(33,118),(34,119),(35,120),(36,121),(37,122),(38,123),(39,124),(40,125),(41,126),(43,128),(44,129)] ?_;iterate 14 (first|(refine WL.tk (v:=undef) rfl rfl Kr (λ_ _ _ h=>h) (Or.inr ⟨Rf,rfl⟩) (by assumption) ?_;simp only[Act.put,Sa,Sb1,Sc])|(refine WL.tk (v:=?_) rfl rfl Kr (λ_ _ _ h=>h) (Or.inl ⟨Rf,?_⟩) (by assumption) ?_;rotate_left;(focus (intro w hSw;(try obtain⟨sf,v0,v1,v13,v14,x1,x2,x3,lb,lx⟩:=hSw);go_simp;(try with_reducible rfl)));simp only[Act.put,Sa,Sb1,Sc]))
      refine WZ.flowJG 4 46 [(42,127,[]),(45,130,[])] [(42,λv _ _ _ _=>v=.string jt),(45,λv _ _ _ _=>v=.string jy)] Kr ?_ rfl (λW W' h f=>HSW.out W' (Z0 h.1 f)) ?_ (by assumption) ?_ (λvals lo hi W hx hSw hv _=>?_)
      ·intro p hp o ho;simp only[List.mem_cons,List.mem_nil_iff,or_false]at hp;rcases hp with rfl|rfl<;>(cases ho;rfl)
      ·simp only[List.forall_mem_cons];exact⟨λ_ _ _ _ _ _ _ h=>h,λ_ _ _ _ _ _ _ h=>h,λ_ h=>nomatch h⟩
      ·simp only[List.forall_mem_cons];refine⟨⟨_,rfl,λvals W hSw hD Q' K hK=>?_⟩,⟨_,rfl,λvals W hSw hD Q' K hK=>?_⟩,λ_ h=>nomatch h⟩
       ·have C:=Hd (Es (strs.ext HSS.out.2.2.1 (HX7.out.then hSw.1)) HB2.out.1);clear hD hSw;simp only[Yi];go_simp;go_wp2_with (go_at_call 16;refine C.out.mono ?_;rintro e w8 ⟨rfl,hx⟩)
        exact hK.out _ _ w8 rfl hx (by rw[HJ.out.1];rfl)
       ·have C:=Hd (Es (strs.ext HSS.out.2.2.2 (HX7.out.then hSw.1)) HB2.out.2);clear hD hSw;simp only[Yi];go_simp;go_wp2_with (go_at_call 16;refine C.out.mono ?_;rintro e w8 ⟨rfl,hx⟩)
        exact hK.out _ _ w8 rfl hx (by rw[HJ.out.2];rfl)
      have h42:vals 42=.string jt:=hv (42,127,[]) (by simp);have h45:vals 45=.string jy:=hv (45,130,[]) (by simp);clear hv;simp only[Yi,List.map_cons,List.map_nil,Act.put,Sa,Sb1,Sc,h42,h45];clear h42 h45 vals;have HSv:=Hd hSw;clear hSw hx
      first
      | (refine WZ.take (i:=46) (dst:=some 131) (v:=undef) rfl rfl Kr (λ_ _ _ h=>h) (Or.inr ⟨Rf,rfl⟩) (by assumption) ?_;simp only[Act.put,Sa,Sb1,Sc])
      | (refine WZ.one (i:=46) rfl Kr (by decide) (λK hK=>?_);go_simp;refine hK.out _ _ (HSW.out _ (HSv.out.1.alloc _)) (λhSr16_46=>?_);clear hK K;try simp only[Act.put,Sa,Sb1,Sc])
      first
      | (refine WZ.take (i:=47) (dst:=some 132) (v:=undef) rfl rfl Kr (λ_ _ _ h=>h) (Or.inr ⟨Rf,rfl⟩) (by assumption) ?_;simp only[Act.put,Sa,Sb1,Sc])
      | (refine WZ.one (i:=47) rfl Kr (by decide) (λK hK=>?_);go_simp;go_wp2_with (go_at_call 15;refine (V2 (strs.ext HSS.out.1.1 (HX7.out.then hSr16_46.1)) (Uj (xs:=[r.pos,jt,jy]) (alloc_at _ _) rfl hsz.out (by show 3<=2000000;omega))).mono ?_;rintro e wd ⟨rfl,hxd⟩);refine hK.out _ _ (HSW.out wd (hSr16_46.1.then hxd)) (λhSr16_47=>?_);clear hK K;try simp only[Act.put,Sa,Sb1,Sc])
      refine WL.go [(48,133)] ?_;iterate 1 (first|(refine WL.tk (v:=undef) rfl rfl Kr (λ_ _ _ h=>h) (Or.inr ⟨Rf,rfl⟩) (by assumption) ?_;simp only[Act.put,Sa,Sb1,Sc])|(refine WL.tk (v:=?_) rfl rfl Kr (λ_ _ _ h=>h) (Or.inl ⟨Rf,?_⟩) (by assumption) ?_;rotate_left;(focus (intro w hSw;(try obtain⟨sf,v0,v1,v13,v14,x1,x2,x3,lb,lx⟩:=hSw);go_simp;(try with_reducible rfl)));simp only[Act.put,Sa,Sb1,Sc]))
      refine WZ.last rfl Kr Kr (λK hK=>?_);go_simp;refine hK.out _ _ ?_;clear hK K;go_wp2_with fail
      go_roundg (n-(i+1))
      case measure=>omega
      case rel=>exact⟨i+1,by go_num,Om,Om,((HR.out.then HX5.out).then HX7.out).then hSr16_47.1⟩
     ·obtain rfl:i=n:=Om
      have HX9:=Hd ((HX1.out.then HY4.out).then HR.out)
      go_wp2_with (first
       | (go_at_call 11;refine (Y9 _ (H.out.2.ext HX9.out).u8).mono ?_;rintro e w9 ⟨rfl,hx⟩;have HYY:=Hd hx;clear hx)
       | fail)
      go_ret;exact⟨rfl,HX9.out.then HYY.out⟩
  ·go_enter Tryz.func4,Tryz.ntmps4
   go_wp2_with (first
    | (go_at_call 9;refine (CF.out _ ((Fl w).alloc _)).mono ?_;rintro e w1 ⟨rfl,hx⟩;have HX:=Hd hx;clear hx)
    | fail)
   go_ret;exact⟨rfl,((Fl w).alloc _).then HX.out⟩
end Go.Proofs.YtoliamijgmifkaaGreatDoor
