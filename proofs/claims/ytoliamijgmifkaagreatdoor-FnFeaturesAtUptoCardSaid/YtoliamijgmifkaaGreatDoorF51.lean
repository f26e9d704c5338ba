/- laws.FnFeaturesAt: the walk. -/
import Derived.Test.YtoliamijgmifkaaGreatDoorF47
import Derived.Test.YtoliamijgmifkaaGreatDoorF50
set_option linter.all false
set_option maxRecDepth 100000
set_option maxHeartbeats 4000000
namespace Go.Proofs.YtoliamijgmifkaaGreatDoor
open Go.RowKit DT SS TR LT
theorem RowK.elem{α:Type}{d:Ty α}{T:TypeId}{A:Option Addr}{n c:Nat}{xs:List α}{B:Nat}{w:World}(h:RowK d T (.slice A n c) xs B w)(i:Nat)(hi:i<xs.length):∃ b o cs,A=some ⟨b,o,none⟩/\b<w.heap.size/\d.R w (fun _=>True) xs[i] cs/\∀ j (hj:j<cs.length),w.cell? ⟨b,o+i*d.sz+j,none⟩=some cs[j]:=by
 obtain⟨A',c',e,_,_,_,h1⟩:=h.slice;simp only[List.cons.injEq,Value.slice.injEq,and_true]at e;obtain⟨rfl,rfl,rfl⟩:=e;rcases h1 with rfl|⟨b,o,rfl,_,hl,hc⟩
 ·simp at hi
 ·obtain⟨cs,hr,hcs⟩:=hc i hi;exact⟨b,o,cs,rfl,hl,d.mono (fun _ _ _=>trivial) hr,hcs⟩
theorem Dh(W:World)(s:ByteArray)(hs:s.size<=9223372036854775807):Ty.str.At (W.alloc (.cells #[.string s] 9)) (fun _=>True) (some ⟨W.heap.size,0,none⟩) [s]:=by
 refine⟨by simp,.inr ⟨_,_,rfl,trivial,by rw[Za];omega,fun i hi=>?_⟩⟩;have:i=0:=by simpa using hi
 subst this;refine⟨[.string s],⟨rfl,hs⟩,fun j hj=>?_⟩;have:j=0:=by simpa using hj
 subst this;exact cell_of (alloc_at _ _) 0 _ rfl
theorem Zak(d:Zf)(cs:List Value)(O:Nat->Prop)(s:ByteArray)(mode k:Int)(w:World)(h:tDict.R w O d cs)(hs:s.size<=9223372036854775807)(hk:-9223372036854775808<=k/\k<=9223372036854775807)(hT:Tbs w)(hb:∀ u∈d.user,total u.tokens<=1048576/\total u.yomi<=1048576) :
  Calls Tryz.prog 7 #[.agg cs.toArray,.string s,.int .i64 mode,.int .i64 k] w fun e w'=>e = .returned (.bool true)/\Ext w w':=by
 have H:=Lib.hid (And.intro h hT);have CF:=Lib.hid (fun W (f:Ext w W)=>Hg W O d cs (tDict.ext h f));obtain⟨A1,c1,A2,c2,A3,c3,A4,c4,A5,c5,A6,c6,A7,c7,A8,c8,rfl,_⟩:=Yh h;clear h hT;have B0:=alloc_at w (.cells #[.slice A1 d.words.length c1,.int .i64 d.rows,.int .i64 d.cols,.slice A2 d.costs.length c2,.slice A3 d.classes.length c3,.slice A4 d.chars.length c4,.slice A5 d.unknown.length c5,.slice A6 d.meta0.length c6,.slice A7 d.unkMeta.length c7,.bool d.hasUser,.slice A8 d.user.length c8] 30);have HB:=Lib.hid B0;clear B0
 cases hf:Yp d with
 | false =>
  rw[hf]at CF;clear hf;go_enter Tryz.func7,Tryz.ntmps7
  go_wp2_with (first
   | (go_at_call 9;refine (CF.out _ ((Fr.refl _ w).alloc _)).mono ?_;rintro e w1 ⟨rfl,hx⟩;have HX:=Lib.hid hx;clear hx)
   | fail)
  go_ret;exact⟨rfl,((Fr.refl _ w).alloc _).then HX.out⟩
 | true =>
  rw[hf]at CF;by_cases hl:s.size<=2147483647
  ·have CG:=Lib.hid (fun W (f:Ext w W) A c (ha:Ty.str.At W (fun _=>True) A [s])=>Zgo W O (fun _=>True) d _ A c [s] (tDict.ext H.out.1 f) hf (H.out.2.ext f).u8 ha);have HF:=Lib.hid hf;clear hf;go_enter Tryz.func7,Tryz.ntmps7
   go_upto_region 3 with (first
    | (go_at_call 9;refine (CF.out _ ((Fr.refl _ w).alloc _)).mono ?_;rintro e w1 ⟨rfl,hx⟩;have HX:=Lib.hid hx;clear hx)
    | fail)
   have k0:∀ (W:World),Ext w1 W->∀ j u,(#[Value.slice A1 d.words.length c1,.int .i64 d.rows,.int .i64 d.cols,.slice A2 d.costs.length c2,.slice A3 d.classes.length c3,.slice A4 d.chars.length c4,.slice A5 d.unknown.length c5,.slice A6 d.meta0.length c6,.slice A7 d.unkMeta.length c7,.bool d.hasUser,.slice A8 d.user.length c8])[j]? = some u->W.cell? ⟨w.heap.size,j,none⟩=some u:=fun W f j u hj=>Zb (f.heap (HX.out.heap HB.out id) id) j u hj
   have KC:Hid (∀ (W:World),Ext w1 W->W.cell? ⟨w.heap.size,0,none⟩=some (.slice A1 d.words.length c1)/\W.cell? ⟨w.heap.size,1,none⟩=some (.int .i64 d.rows)/\W.cell? ⟨w.heap.size,2,none⟩=some (.int .i64 d.cols)/\W.cell? ⟨w.heap.size,3,none⟩=some (.slice A2 d.costs.length c2)/\W.cell? ⟨w.heap.size,4,none⟩=some (.slice A3 d.classes.length c3)/\W.cell? ⟨w.heap.size,5,none⟩=some (.slice A4 d.chars.length c4)/\W.cell? ⟨w.heap.size,6,none⟩=some (.slice A5 d.unknown.length c5)/\W.cell? ⟨w.heap.size,7,none⟩=some (.slice A6 d.meta0.length c6)/\W.cell? ⟨w.heap.size,8,none⟩=some (.slice A7 d.unkMeta.length c7)/\W.cell? ⟨w.heap.size,9,none⟩=some (.bool d.hasUser)/\W.cell? ⟨w.heap.size,10,none⟩=some (.slice A8 d.user.length c8)/\w.heap.size<W.heap.size):=fun W f =>
    ⟨k0 W f 0 _ rfl,k0 W f 1 _ rfl,k0 W f 2 _ rfl,k0 W f 3 _ rfl,k0 W f 4 _ rfl,k0 W f 5 _ rfl,k0 W f 6 _ rfl,k0 W f 7 _ rfl,k0 W f 8 _ rfl,k0 W f 9 _ rfl,k0 W f 10 _ rfl,lt_of_cell (k0 W f 0 _ rfl)⟩
   have HX1:=Lib.hid (((Fr.refl (fun _=>False) w).alloc _).then HX.out);obtain⟨q0,q1,q2,q3,q4,q5,q6,q7,q8,q9,q10,ql⟩:=KC.out w1 (Fr.refl _ w1);clear k0 HX HB CF
   cases hfi:Sv d [s] with
   | false =>
    rw[hfi]at CG;clear hfi
    go_wp2_with (first
     | (go_at_call 10;refine (CG.out _ (HX1.out.alloc _) _ _ (Dh w1 s hs)).mono ?_;rintro e w2 ⟨rfl,hx⟩;have HY2:=Lib.hid ((HX1.out.alloc _).then hx);clear hx)
     | (go_at_call 11;refine (Iq _ (H.out.2.ext HY2.out).u8).mono ?_;rintro e w3 ⟨rfl,hx⟩;have HY3:=Lib.hid (HY2.out.then hx);clear hx)
     | fail)
    go_ret;exact⟨rfl,HY3.out⟩
   | true =>
    rw[hfi]at CG;obtain⟨⟨hrd,hsz⟩,hr,hd,hu,_⟩:=Zbz hfi HF.out;obtain⟨TL,hTL⟩:∃ TL,TL=Y3 (Zu d (Tu d)) false (Uc mode) s:=⟨_,rfl⟩;have CA:=Lib.hid (fun W (f:Ext w W)=>K5 d _ O (Tu d) (xOf d) (usL d) s hrd hsz mode k hk.2 W (tDict.ext H.out.1 f) (H.out.2.ext f).u8 hd hr (Od d _ O W (tDict.ext H.out.1 f) (H.out.2.ext f) hd hr hu) (fun W v kd H U ku w' ha=>Zbe hfi HF.out hb ha) (Zbd hr hd _ _ (Zbs hu) hrd hsz false (Uc mode)) (Qh hr hd _ (Ho hu) hrd hsz false (Uc mode)));have CB:=Lib.hid (fun W (f:Ext w W)=>Cq d _ O (Tu d) (xOf d) (usL d) s hrd hsz mode W (tDict.ext H.out.1 f) (H.out.2.ext f) (H.out.2.ext f).u8 hd hr (Od d _ O W (tDict.ext H.out.1 f) (H.out.2.ext f) hd hr hu) (fun W v kd H U ku w' ha=>Zbe hfi HF.out hb ha) (Zbd hr hd _ _ (Zbs hu) hrd hsz false (Uc mode)) (Qh hr hd _ (Ho hu) hrd hsz false (Uc mode)));have hlen:=Qh hr hd _ (Ho hu) hrd hsz false (Uc mode);rw[<- hTL]at CA CB hlen;clear hrd hsz hr hd hu hfi hTL HF;generalize usL d=us at *
    have hkb:(k<0\/∃ q:Nat,k=q):=by
     rcases Int.lt_or_le k 0 with q|q
     ·exact .inl q
     ·exact .inr ⟨k.toNat,by omega⟩
    obtain⟨n,hne⟩:∃ n,n=TL.length:=⟨_,rfl⟩;have HN:=Lib.hid hne;rw[<- hne]at hlen;clear hne
    go_upto_region 7 with (first
     | (go_at_call 10;refine (CG.out _ (HX1.out.alloc _) _ _ (Dh w1 s hs)).mono ?_;rintro e w2 ⟨rfl,hx⟩;clear q0 q1 q2 q3 q4 q5 q6 q7 q8 q9 q10 ql;obtain⟨q0,q1,q2,q3,q4,q5,q6,q7,q8,q9,q10,ql⟩:=KC.out _ (((Fr.refl _ w1).alloc _).then hx);have HY2:=Lib.hid (((Fr.refl (fun _=>False) w1).alloc _).then hx);clear hx)
     | (go_at_call 21;refine (CA.out _ (HX1.out.then HY2.out)).mono ?_;rintro e w3 ⟨vl,rfl,hrl,hx⟩;clear q0 q1 q2 q3 q4 q5 q6 q7 q8 q9 q10 ql;obtain⟨q0,q1,q2,q3,q4,q5,q6,q7,q8,q9,q10,ql⟩:=KC.out _ (HY2.out.then hx);have HY3:=Lib.hid (HY2.out.then hx);clear hx;obtain⟨Al,cl,el⟩:=hrl.own;rw[List.length_map,<- HN.out]at el;subst el;have HRL:=Lib.hid hrl;clear hrl)
     | (go_at_call 13;refine (CB.out _ (HX1.out.then HY3.out)).mono ?_;rintro e w4 ⟨vm,rfl,hrm,hx⟩;obtain⟨Am,cm,em⟩:=hrm.own;rw[List.length_map,<- HN.out]at em;subst em;have HRM:=Lib.hid (And.intro (HRL.out.ext hx) hrm);have HY4:=Lib.hid (HY3.out.then hx);clear hx hrm HRL)
     | fail)
    clear q0 q1 q2 q3 q4 q5 q6 q7 q8 q9 q10 ql KC CG CA CB;go_wp2_with fail
    go_loopg [59] n (fun g1 v59 wr=>∃ i:Nat,v59 = .int .i64 (i:Int)/\i<=n/\n<=i+g1/\Hid (Ext w4 wr))
    case atStart=>exact⟨0,rfl,by omega,by omega,Fr.refl _ _⟩
    case round =>
     obtain⟨i,rfl,hi,hg,HR⟩:=hrel;by_cases hlt:i<n
     ·have hlz:(i:Int)<(n:Int):=by omega
      have hz0:(0:Int)<=(i:Int):=by omega
      have hil:i<TL.length:=by rw[<- HN.out];exact hlt
      obtain⟨bl,ol,csl,rfl,ll,hrl,hcl⟩:=(HRM.out.1.ext HR.out).elem i (by rw[List.length_map];exact hil);obtain⟨bm,om,csm,rfl,lm,hrm,hcm⟩:=(HRM.out.2.ext HR.out).elem i (by rw[List.length_map];exact hil);rw[List.getElem_map]at hrl hrm;generalize TL[i]=t at *;have hrl:csl=[.string ((Xt (Z5 d us t) k).getD ⟨#[]⟩),.bool (Xt (Z5 d us t) k).isSome]:=hrl;subst hrl;obtain⟨vF,vP,vT,vY,rfl,hF,_⟩:=hrm;have hF:strs.R wr (fun _=>True) (Z5 d us t) [vF]:=strs.mono (fun _ _ _=>trivial) hF;obtain⟨AF,cF,rfl⟩:=Xz hF;have a0:wr.cell? ⟨bl,ol+i*2,none⟩=some (.string ((Xt (Z5 d us t) k).getD ⟨#[]⟩)):=hcl 0 (by simp);have a1:wr.cell? ⟨bl,ol+i*2+1,none⟩=some (.bool (Xt (Z5 d us t) k).isSome):=hcl 1 (by simp);have m0:wr.cell? ⟨bm,om+i*20,none⟩=some (.slice AF (Z5 d us t).length cF):=hcm 0 (by simp);clear hcl hcm;generalize hft:Z5 d us t=ft at *;clear hft;have hbl:bl<wr.heap.size:=ll;have HF:=Lib.hid hF;clear hF;rcases hkb with hk0|⟨q,hq⟩
      ·have e0:Xt ft k=none:=if_pos hk0;rw[e0]at a0 a1;have a1:wr.cell? ⟨bl,ol+i*2+1,none⟩=some (.bool false):=a1;have hk1:¬ (0:Int)<=k:=by omega
       clear e0;go_upto_region 13 with fail
       go_quiet (fail)
       go_wp2_with fail
       go_roundg (n-(i+1))
       case measure=>omega
       case rel=>exact⟨i+1,by go_num,by omega,by omega,HR.out.drewN _⟩
      ·have e0:Xt ft k=ft[q]?:=by rw[hq];exact if_neg (by omega)
       rw[e0]at a0 a1;clear e0;have HQ:=Lib.hid hq;subst hq;have hq0:(0:Int)<=(q:Int):=by omega
       by_cases hql:q<ft.length
       ·rw[List.getElem?_eq_getElem hql]at a0 a1;have a0:wr.cell? ⟨bl,ol+i*2,none⟩=some (.string ft[q]):=a0;have a1:wr.cell? ⟨bl,ol+i*2+1,none⟩=some (.bool true):=a1;have hqi:(q:Int)<(ft.length:Int):=by omega
        obtain⟨bf,of,rfl,lf,hcf⟩:=X7 HF.out (fun e=>by rw[e]at hql;exact absurd hql (by simp))
        have f0:wr.cell? ⟨bf,of+q,none⟩=some (.string ft[q]):=by
         have:=hcf q (.string ft[q]) (by rw[List.getElem?_map,List.getElem?_eq_getElem hql];rfl);rwa[Addr.add_lit]at this
        generalize ft[q]=fx at *;clear hcf;go_upto_region 13 with fail
        go_quiet (fail)
        go_wp2_with fail
        go_roundg (n-(i+1))
        case measure=>omega
        case rel=>exact⟨i+1,by go_num,by omega,by omega,HR.out.drewN _⟩
       ·rw[List.getElem?_eq_none (by omega)]at a0 a1;have a1:wr.cell? ⟨bl,ol+i*2+1,none⟩=some (.bool false):=a1;have hqi:¬ (q:Int)<(ft.length:Int):=by omega
        go_upto_region 13 with fail
        go_quiet (fail)
        go_wp2_with fail
        go_roundg (n-(i+1))
        case measure=>omega
        case rel=>exact⟨i+1,by go_num,by omega,by omega,HR.out.drewN _⟩
     ·obtain rfl:i=n:=by omega
      have HX9:=Lib.hid ((HX1.out.then HY4.out).then HR.out)
      go_wp2_with (first
       | (go_at_call 11;refine (Iq _ (H.out.2.ext HX9.out).u8).mono ?_;rintro e w9 ⟨rfl,hx⟩;have HYY:=Lib.hid hx;clear hx)
       | fail)
      go_ret;exact⟨rfl,HX9.out.then HYY.out⟩
  ·go_enter Tryz.func7,Tryz.ntmps7
   go_wp2_with (first
    | (go_at_call 9;refine (CF.out _ ((Fr.refl _ w).alloc _)).mono ?_;rintro e w1 ⟨rfl,hx⟩;have HX:=Lib.hid hx;clear hx)
    | fail)
   go_ret;exact⟨rfl,((Fr.refl _ w).alloc _).then HX.out⟩
end Go.Proofs.YtoliamijgmifkaaGreatDoor
