/- laws.FnForms: the walk. -/
import Derived.Test.YtoliamijgmifkaaGreatDoorH42
import Derived.Test.YtoliamijgmifkaaGreatDoorH43
set_option linter.all false
set_option maxRecDepth 100000
set_option maxHeartbeats 4000000
namespace Go.Proofs.YtoliamijgmifkaaGreatDoor
open Go.RowKit DT SS TR LT
theorem Zd1(d:Zj)(cs:List Value)(O:Nat->Prop)(s:ByteArray)(mode:Int)(w:World)(h:tDict.R w O d cs)(hs:s.size<=9223372036854775807)(hT:Di w)(hb:∀ u∈d.user,total u.tokens<=1048576/\total u.yomi<=1048576) :
  Calls Tryz.prog 5 #[.agg cs.toArray,.string s,.int .i64 mode] w λe w'=>e=.returned (.bool true)/\Zg w w':=by
 have mixed:Tryz.prog.follows .mixedOrders=true:=Kr
 have H:=Hd (Ai1 h hT);have CF:=Hd (λW (f:Zg w W)=>Tr W O d cs (tDict.ext h f));obtain⟨A1,c1,A2,c2,A3,c3,A4,c4,A5,c5,A6,c6,A7,c7,A8,c8,rfl,_,_,_,_,_,h6,h7,_⟩:=Ye h;have HMK:=Hd (Ai1 h6.2.2 h7.2.2);clear h6 h7;clear h hT;have B0:=alloc_at w (.cells #[.slice A1 d.words.length c1,.int .i64 d.rows,.int .i64 d.cols,.slice A2 d.costs.length c2,.slice A3 d.classes.length c3,.slice A4 d.chars.length c4,.slice A5 d.unknown.length c5,.slice A6 d.meta0.length c6,.slice A7 d.unkMeta.length c7,.bool d.hasUser,.slice A8 d.user.length c8] 30);have HB:=Hd B0;clear B0
 cases hf:Yn d with
 | false =>
  rw[hf]at CF;clear hf;go_enter Tryz.func5,Tryz.ntmps5
  go_wp2_with (first
   | (go_at_call 9;refine (CF.out _ ((Fl w).alloc _)).mono ?_;rintro e w1 ⟨rfl,hx⟩;have HX:=Hd hx;clear hx)
   | fail)
  go_ret;exact⟨rfl,((Fl w).alloc _).then HX.out⟩
 | true =>
  rw[hf]at CF;by_cases hl:s.size<=2147483647
  ·have CG:=Hd (λW (f:Zg w W) A c (ha:Ty.str.At W (λ_=>True) A [s])=>J3 W O (λ_=>True) d _ A c [s] (tDict.ext H.out.1 f) hf (H.out.2.ext f).u8 ha);have HF:=Hd hf;clear hf;go_enter Tryz.func5,Tryz.ntmps5
   go_upto_region 3 with (first
    | (go_at_call 9;refine (CF.out _ ((Fl w).alloc _)).mono ?_;rintro e w1 ⟨rfl,hx⟩;have HX:=Hd hx;clear hx)
    | fail)
   have k0:∀ (W:World),Zg w1 W->∀ j u,(#[Value.slice A1 d.words.length c1,.int .i64 d.rows,.int .i64 d.cols,.slice A2 d.costs.length c2,.slice A3 d.classes.length c3,.slice A4 d.chars.length c4,.slice A5 d.unknown.length c5,.slice A6 d.meta0.length c6,.slice A7 d.unkMeta.length c7,.bool d.hasUser,.slice A8 d.user.length c8])[j]?=some u->W.cell? ⟨w.heap.size,j,none⟩=some u:=λW f j u hj=>Zb (f.heap (HX.out.heap HB.out id) id) j u hj
   have KC:Hid (∀ (W:World),Zg w1 W->W.cell? ⟨w.heap.size,0,none⟩=some (.slice A1 d.words.length c1)/\W.cell? ⟨w.heap.size,1,none⟩=some (.int .i64 d.rows)/\W.cell? ⟨w.heap.size,2,none⟩=some (.int .i64 d.cols)/\W.cell? ⟨w.heap.size,3,none⟩=some (.slice A2 d.costs.length c2)/\W.cell? ⟨w.heap.size,4,none⟩=some (.slice A3 d.classes.length c3)/\W.cell? ⟨w.heap.size,5,none⟩=some (.slice A4 d.chars.length c4)/\W.cell? ⟨w.heap.size,6,none⟩=some (.slice A5 d.unknown.length c5)/\W.cell? ⟨w.heap.size,7,none⟩=some (.slice A6 d.meta0.length c6)/\W.cell? ⟨w.heap.size,8,none⟩=some (.slice A7 d.unkMeta.length c7)/\W.cell? ⟨w.heap.size,9,none⟩=some (.bool d.hasUser)/\W.cell? ⟨w.heap.size,10,none⟩=some (.slice A8 d.user.length c8)/\w.heap.size<W.heap.size):=λW f =>
    ⟨k0 W f 0 _ rfl,k0 W f 1 _ rfl,k0 W f 2 _ rfl,k0 W f 3 _ rfl,k0 W f 4 _ rfl,k0 W f 5 _ rfl,k0 W f 6 _ rfl,k0 W f 7 _ rfl,k0 W f 8 _ rfl,k0 W f 9 _ rfl,k0 W f 10 _ rfl,lt_of_cell (k0 W f 0 _ rfl)⟩
   have HX1:=Hd (((Fe w).alloc _).then HX.out);obtain⟨q0,q1,q2,q3,q4,q5,q6,q7,q8,q9,q10,ql⟩:=KC.out w1 (Fl w1);clear k0 HX HB CF
   cases hfi:Tn d [s] with
   | false =>
    rw[hfi]at CG;clear hfi
    go_wp2_with (first
     | (go_at_call 10;refine (CG.out _ (HX1.out.alloc _) _ _ (Xr w1 s hs)).mono ?_;rintro e w2 ⟨rfl,hx⟩;have HY2:=Hd ((HX1.out.alloc _).then hx);clear hx)
     | (go_at_call 11;refine (Y9 _ (H.out.2.ext HY2.out).u8).mono ?_;rintro e w3 ⟨rfl,hx⟩;have HY3:=Hd (HY2.out.then hx);clear hx)
     | fail)
    go_ret;exact⟨rfl,HY3.out⟩
   | true =>
    rw[hfi]at CG;obtain⟨⟨hrd,hsz⟩,hr,hd,hu,-⟩:=J2 hfi HF.out;by_cases h2:d.words.length<2\/d.unknown.length<2
    ·clear hrd hsz hr hd hu hfi;rcases Nat.lt_or_ge d.words.length 2 with hw2|hw2
     ·have hw3:(d.words.length:Int)<2:=Om;clear h2
      go_wp2_with (first
       | (go_at_call 10;refine (CG.out _ (HX1.out.alloc _) _ _ (Xr w1 s hs)).mono ?_;rintro e w2 ⟨rfl,hx⟩;clear q0 q1 q2 q3 q4 q5 q6 q7 q8 q9 q10 ql;obtain⟨q0,q1,q2,q3,q4,q5,q6,q7,q8,q9,q10,ql⟩:=KC.out _ (((Fl w1).alloc _).then hx);have HY2:=Hd ((HX1.out.alloc _).then hx);clear hx)
       | (go_at_call 11;refine (Y9 _ (H.out.2.ext HY2.out).u8).mono ?_;rintro e w3 ⟨rfl,hx⟩;have HY3:=Hd (HY2.out.then hx);clear hx)
       | fail)
      go_ret;exact⟨rfl,HY3.out⟩
     ·have hw3:¬ (d.words.length:Int)<2:=Om;have hu3:(d.unknown.length:Int)<2:=Om;clear h2
      go_wp2_with (first
       | (go_at_call 10;refine (CG.out _ (HX1.out.alloc _) _ _ (Xr w1 s hs)).mono ?_;rintro e w2 ⟨rfl,hx⟩;clear q0 q1 q2 q3 q4 q5 q6 q7 q8 q9 q10 ql;obtain⟨q0,q1,q2,q3,q4,q5,q6,q7,q8,q9,q10,ql⟩:=KC.out _ (((Fl w1).alloc _).then hx);have HY2:=Hd ((HX1.out.alloc _).then hx);clear hx)
       | (go_at_call 11;refine (Y9 _ (H.out.2.ext HY2.out).u8).mono ?_;rintro e w3 ⟨rfl,hx⟩;have HY3:=Hd (HY2.out.then hx);clear hx)
       | fail)
      go_ret;exact⟨rfl,HY3.out⟩
    have hw3:decide ((d.words.length:Int)<2)=false:=decide_eq_false Om;have hu3:decide ((d.unknown.length:Int)<2)=false:=decide_eq_false Om;clear h2;obtain⟨TL,hTL⟩:∃ TL,TL=Xn (Zz d (Vg d)) false (Wu mode) s:=⟨_,rfl⟩;have CA:=Hd (λW (f:Zg w W)=>Va d _ O (Vg d) (xOf d) (Uh hu) s hrd hsz mode false W (tDict.ext H.out.1 f) (H.out.2.ext f).u8 hd hr (Xp d _ O W (tDict.ext H.out.1 f) (H.out.2.ext f) hd hr hu));have CB:=Hd (λW (f:Zg w W)=>Rp d _ O (Vg d) (xOf d) (usL d) s hrd hsz mode W (tDict.ext H.out.1 f) (H.out.2.ext f) (H.out.2.ext f).u8 hd hr (Xp d _ O W (tDict.ext H.out.1 f) (H.out.2.ext f) hd hr hu) (λW v kd H U ku w' ha=>Gp hfi HF.out hb ha) (Re hr hd _ _ (Rk hu) hrd hsz false (Wu mode)) (Vl hr hd _ (Uh hu) hrd hsz false (Wu mode)));have HIN:=Hd (Re hr hd _ _ (Rk hu) hrd hsz false (Wu mode));have hlen:=Vl hr hd _ (Uh hu) hrd hsz false (Wu mode);rw[<- hTL]at CA CB hlen HIN;clear hrd hsz hr hd hu hfi hTL HF;generalize usL d=us at *;obtain⟨n,hne⟩:∃ n,n=TL.length:=⟨_,rfl⟩;have HN:=Hd hne;rw[<- hne]at hlen;clear hne
    go_upto_region 7 with (first
     | (go_at_call 10;refine (CG.out _ (HX1.out.alloc _) _ _ (Xr w1 s hs)).mono ?_;rintro e w2 ⟨rfl,hx⟩;clear q0 q1 q2 q3 q4 q5 q6 q7 q8 q9 q10 ql;obtain⟨q0,q1,q2,q3,q4,q5,q6,q7,q8,q9,q10,ql⟩:=KC.out _ (((Fl w1).alloc _).then hx);have HY2:=Hd (((Fe w1).alloc _).then hx);clear hx)
     | (go_at_call 12;refine (CA.out _ (HX1.out.then HY2.out)).mono ?_;rintro e w3 ⟨vl,rfl,hrl,hx⟩;clear q0 q1 q2 q3 q4 q5 q6 q7 q8 q9 q10 ql;obtain⟨q0,q1,q2,q3,q4,q5,q6,q7,q8,q9,q10,ql⟩:=KC.out _ (HY2.out.then hx);have HY3:=Hd (HY2.out.then hx);clear hx;rw[<- HN.out]at hrl;obtain⟨Al,cl,el⟩:=Zn hrl;subst el;have HRL:=Hd hrl;clear hrl)
     | (go_at_call 13;refine (CB.out _ (HX1.out.then HY3.out)).mono ?_;rintro e w4 ⟨vm,rfl,hrm,hx⟩;obtain⟨Am,cm,em⟩:=hrm.own;rw[List.length_map,<- HN.out]at em;subst em;have HRM:=Hd (Ai1 (Zu HRL.out hx (λ_ _ e=>e)) hrm);have HY4:=Hd (HY3.out.then hx);clear hx hrm HRL)
     | fail)
    clear q0 q1 q2 q3 q4 q5 q6 q7 q8 q9 q10 ql CG CA CB;go_wp2_with fail
    go_loopg [70] n (λg1 v70 wr=>∃ i:Nat,v70=.int .i64 (i:Int)/\i<=n/\n<=i+g1/\Hid (Zg w4 wr))
    case atStart=>exact⟨0,rfl,Om,Om,Fl _⟩
    case round =>
     obtain⟨i,rfl,hi,hg,HR⟩:=hrel;by_cases hlt:i<n
     ·have hlz:(i:Int)<(n:Int):=Om;have hz0:(0:Int)<=(i:Int):=Om;have hil:i<TL.length:=by rw[<- HN.out];exact hlt
      obtain⟨gl,rfl,ll,hcl⟩:=Znc HRM.out.1 HR.out (λ_ _ _ e=>e) HN.out i hil;obtain⟨bm,om,csm,rfl,lm,hrm,hcm⟩:=(HRM.out.2.ext HR.out).elem i (by rw[List.length_map];exact hil);rw[List.getElem_map]at hrm;have HTI:=Hd (HIN.out TL[i] (List.getElem_mem hil));generalize TL[i]=t at *;obtain⟨vF,vP,vT,vY,rfl,hF,hP,hTk,hYm⟩:=hrm;have hF:strs.R wr (λ_=>True) (Z8 d us t) [vF]:=strs.mono (λ_ _ _=>trivial) hF;obtain⟨AF,cF,rfl⟩:=Yf hF;obtain⟨AP,cP,rfl⟩:=Yf hP;obtain⟨AT,cT,rfl⟩:=Yf hTk;obtain⟨AY,cY,rfl⟩:=Yf hYm;have HF:=Hd hF;clear hF hP hTk hYm;have q0:wr.cell? ⟨gl,i*7,none⟩=some (.int .i64 t.index):=hcl 0 Om;have q1:wr.cell? ⟨gl,i*7+1,none⟩=some (.int .i64 t.id):=hcl 1 Om;have q2:wr.cell? ⟨gl,i*7+2,none⟩=some (.int .i64 t.cls):=hcl 2 Om;have q3:wr.cell? ⟨gl,i*7+3,none⟩=some (.int .i64 t.pos):=hcl 3 Om;have q4:wr.cell? ⟨gl,i*7+4,none⟩=some (.int .i64 t.start):=hcl 4 Om;have q5:wr.cell? ⟨gl,i*7+5,none⟩=some (.int .i64 t.fin):=hcl 5 Om;have q6:wr.cell? ⟨gl,i*7+6,none⟩=some (.string t.surf):=hcl 6 Om;have HCM:=Hd hcm;clear hcl hcm;go_upto_region 12 with fail
      obtain⟨tb,htb⟩:∃ tb,tb=wr.heap.size:=⟨_,rfl⟩;rw[<- htb];have K1:=alloc_at' wr (.cells (Ru t).toArray 42) htb;have X1:Zg wr (wr.alloc (.cells (Ru t).toArray 42)):=(Fl wr).alloc _;have HX5:=Hd X1;have HK1:=Hd K1;clear X1 K1 htb q0 q1 q2 q3 q4 q5 q6 ll lm;generalize World.alloc wr _=w5 at *;obtain⟨_,_,_,_,_,_,_,e7,e8,_,_,le⟩:=KC.out w5 ((HY4.out.then HR.out).then HX5.out);have HWW:=Hd ((HX1.out.then HY4.out).then HR.out |>.then HX5.out);have tc:=cell_of HK1.out 2 (.int .i64 (t.cls:Int)) rfl;have ltb:=lt_of_cell tc;have hc4:t.cls=0\/t.cls=3\/t.cls=1\/t.cls=2:=by have:=HTI.out.cls;omega
      rcases hc4 with hc|hc|hc|hc
      iterate 2
       focus
        rw[hc]at tc;clear hc;go_wp2_with fail
        go_roundg (n-(i+1))
        case measure=>omega
        case rel=>exact⟨i+1,by go_num,Om,Om,HR.out.then HX5.out⟩
      have CMk:Hid (∀ W key,Zg w5 W->Calls Tryz.prog 18 #[.slice AF (Z8 d us t).length cF,.slice A6 d.meta0.length c6,.string key] W λe w'=>e=.returned (.agg #[.string ((Z3 d us t key).getD ⟨#[]⟩),.bool (Z3 d us t key).isSome])/\Zg W w'):=λW key f=>by
       rw[show Z3 d us t key=(Yb (Zi d.meta0) key).bind (V0 (Z8 d us t)) by unfold Z3;rw[hc];rfl];exact Ew key (Yc HMK.out.1 (HWW.out.then f)) (strs.ext HF.out (HX5.out.then f))
      rotate_left
      have CMk:Hid (∀ W key,Zg w5 W->Calls Tryz.prog 18 #[.slice AF (Z8 d us t).length cF,.slice A7 d.unkMeta.length c7,.string key] W λe w'=>e=.returned (.agg #[.string ((Z3 d us t key).getD ⟨#[]⟩),.bool (Z3 d us t key).isSome])/\Zg W w'):=λW key f=>by
       rw[show Z3 d us t key=(Yb (Zi d.unkMeta) key).bind (V0 (Z8 d us t)) by unfold Z3;rw[hc];rfl];exact Ew key (Yc HMK.out.2 (HWW.out.then f)) (strs.ext HF.out (HX5.out.then f))
      all_goals
       rw[hc]at tc;have Cb:=Hd (λW f=>CMk.out W Rn f);have Cr:=Hd (λW f=>CMk.out W Rl f);have Cp:=Hd (λW f=>CMk.out W Rm f);have Ct:=Hd (λW f=>CMk.out W Zbd f);have Cf:=Hd (λW f=>CMk.out W Jk f);clear CMk
       have hcm':∀ (j:Nat) v,([.slice AF (Z8 d us t).length cF,.slice AP (Vz d us t).length cP,.string ((Z3 d us t Rn).getD ⟨#[]⟩),.bool (Z3 d us t Rn).isSome,.string ((Z3 d us t Rl).getD ⟨#[]⟩),.bool (Z3 d us t Rl).isSome,.string ((Z3 d us t Rm).getD ⟨#[]⟩),.bool (Z3 d us t Rm).isSome,.string ((Z3 d us t Zbd).getD ⟨#[]⟩),.bool (Z3 d us t Zbd).isSome,.string ((Z3 d us t Jk).getD ⟨#[]⟩),.bool (Z3 d us t Jk).isSome,.bool (Wr us t).isSome,.slice AT _ cT,.slice AY _ cY,.string (Zj6 t),.string (Yo t.cls),.string ((Z3 d us t Rn).getD ⟨#[]⟩),.string ((Z3 d us t Rl).getD ⟨#[]⟩),.string ((Z3 d us t Rm).getD ⟨#[]⟩)]:List Value)[j]?=some v->w5.cell? ⟨bm,om+i*20+j,none⟩=some v:=λj v hv=>by
        obtain⟨hj,e⟩:=Gl.1 hv;rw[<- e];exact HX5.out.cell (HCM.out j hj) id
       generalize Z3 d us t Rn=xb at *;generalize Z3 d us t Rl=xr at *;generalize Z3 d us t Rm=xp at *;generalize Z3 d us t Zbd=xt at *;generalize Z3 d us t Jk=xf at *;generalize Zj6 t=s0 at *;generalize Yo t.cls=s1 at *;generalize (Wr us t).isSome=qx at *;generalize (Vz d us t).length=pl at *;generalize Z8 d us t=ft at *;have HRA:Hid (w5.rangeAt bm (om+i*20) _):=hcm';clear hcm';clear hc;go_upto_region 16 with fail
       clear e7 e8 le tc ltb
       go_upto_region 17 with (first
        | (refine wpList_load_mid Rf 50 (.tmp 92) Rf bm (om+i*20) Rf _ _ HRA.out Tryz.underlying50 rfl Kr ?_;dsimp only[Act.put];refine Kl Rf Rf 50 14 Rf Rf (.tmp 93) Rf Rf _ _ Zl9 Rf Rf Kr Rf (all_oneCell_toArray (Cz _ _ _ _ _ _ _ _ _ _ _ _ _ _ _ _ _ _ _ _ _ _ _ _ rfl rfl)) ?_;dsimp only[Act.put])
        | fail)
       obtain⟨bx,hbx⟩:∃ bx,bx=w5.heap.size:=⟨_,rfl⟩;rw[<- hbx];have hk6:=λC=>alloc_at' w5 (.cells C Tb) hbx
       have hx6:∀ o,Zg w5 (w5.alloc o):=λo=>(Fl w5).alloc o
       generalize hw6:World.alloc w5 _=w6;have HK6:=Hd (hw6▸hk6 _);have HX6:=Hd (hw6▸hx6 _);clear hk6 hx6 hw6 hbx HRA;have HSS:Hid (∀ W,Zg w6 W->Zg w6 W/\W.cell? ⟨bx,0,none⟩=some (.slice AF ft.length cF)/\W.cell? ⟨bx,2,none⟩=some (.string (xb.getD ⟨#[]⟩))/\W.cell? ⟨bx,3,none⟩=some (.bool xb.isSome)/\W.cell? ⟨bx,4,none⟩=some (.string (xr.getD ⟨#[]⟩))/\W.cell? ⟨bx,5,none⟩=some (.bool xr.isSome)/\W.cell? ⟨bx,6,none⟩=some (.string (xp.getD ⟨#[]⟩))/\W.cell? ⟨bx,7,none⟩=some (.bool xp.isSome)/\W.cell? ⟨bx,8,none⟩=some (.string (xt.getD ⟨#[]⟩))/\W.cell? ⟨bx,9,none⟩=some (.bool xt.isSome)/\W.cell? ⟨bx,10,none⟩=some (.string (xf.getD ⟨#[]⟩))/\W.cell? ⟨bx,11,none⟩=some (.bool xf.isSome)/\bx<W.heap.size):=λW f=>⟨f,cell_of (f.heap HK6.out id) 0 _ rfl,cell_of (f.heap HK6.out id) 2 _ rfl,cell_of (f.heap HK6.out id) 3 _ rfl,cell_of (f.heap HK6.out id) 4 _ rfl,cell_of (f.heap HK6.out id) 5 _ rfl,cell_of (f.heap HK6.out id) 6 _ rfl,cell_of (f.heap HK6.out id) 7 _ rfl,cell_of (f.heap HK6.out id) 8 _ rfl,cell_of (f.heap HK6.out id) 9 _ rfl,cell_of (f.heap HK6.out id) 10 _ rfl,cell_of (f.heap HK6.out id) 11 _ rfl,lt_of_cell (cell_of (f.heap HK6.out id) 0 _ rfl)⟩
       refine Yh 47 48 #[false,false,false,false,false,false,false,false,false,false,false,false,false,false,false,false,false,false,false,false,false,false,false,false,false,false,false,false,false,false,false,false,false,false,false,false,false,false,false,false,false,false,false,false,false,false,false,false] (λW=>Zg w6 W/\W.cell? ⟨bx,0,none⟩=some (.slice AF ft.length cF)/\W.cell? ⟨bx,2,none⟩=some (.string (xb.getD ⟨#[]⟩))/\W.cell? ⟨bx,3,none⟩=some (.bool xb.isSome)/\W.cell? ⟨bx,4,none⟩=some (.string (xr.getD ⟨#[]⟩))/\W.cell? ⟨bx,5,none⟩=some (.bool xr.isSome)/\W.cell? ⟨bx,6,none⟩=some (.string (xp.getD ⟨#[]⟩))/\W.cell? ⟨bx,7,none⟩=some (.bool xp.isSome)/\W.cell? ⟨bx,8,none⟩=some (.string (xt.getD ⟨#[]⟩))/\W.cell? ⟨bx,9,none⟩=some (.bool xt.isSome)/\W.cell? ⟨bx,10,none⟩=some (.string (xf.getD ⟨#[]⟩))/\W.cell? ⟨bx,11,none⟩=some (.bool xf.isSome)/\bx<W.heap.size) mixed rfl rfl (HSS.out w6.drew (Fl w6).drew) (λhS=>?_);refine WL.go [(0,94),(1,95),(2,96),(3,97),(4,98)] ?_;iterate 5 (refine WL.tk (v:=?_) rfl rfl Kr (λ_ _ _ h=>h) (Or.inl ⟨Rf,?_⟩) (by assumption) ?_;rotate_left;(focus (intro w hSw;(try obtain⟨sf,v0,v2,v3,v4,v5,v6,v7,v8,v9,v10,v11,lb⟩:=hSw);go_simp;(try with_reducible rfl)));simp only[Act.put,Sa,Sb1,Sc])
       refine WZ.one (i:=5) rfl Kr (by decide) (λK hK=>?_);go_simp;go_wp2_with (go_at_call 18;refine (Cb.out _ (HX6.out.then ((Fl w6).drew))).mono ?_;rintro e wa ⟨rfl,hxa⟩);refine hK.out _ _ (HSS.out wa ((((Fl w6).drew)).then hxa)) (λhSr17_5=>?_);clear hK K;try simp only[Act.put,Sa,Sb1,Sc]
       refine WZ.one (i:=6) rfl Kr (by decide) (λK hK=>?_);go_simp;go_wp2_with (go_at_call 17;refine (Vm xb _).mono ?_;rintro e wb ⟨rfl,hxb⟩);refine hK.out _ _ (HSS.out wb ((hSr17_5.1).then hxb)) (λhSr17_6=>?_);clear hK K;try simp only[Act.put,Sa,Sb1,Sc]
       refine WL.go [(7,101),(8,102),(9,103),(10,104),(11,105),(12,106),(13,107)] ?_;iterate 7 (refine WL.tk (v:=?_) rfl rfl Kr (λ_ _ _ h=>h) (Or.inl ⟨Rf,?_⟩) (by assumption) ?_;rotate_left;(focus (intro w hSw;(try obtain⟨sf,v0,v2,v3,v4,v5,v6,v7,v8,v9,v10,v11,lb⟩:=hSw);go_simp;(try with_reducible rfl)));simp only[Act.put,Sa,Sb1,Sc])
       refine WZ.one (i:=14) rfl Kr (by decide) (λK hK=>?_);go_simp;go_wp2_with (go_at_call 18;refine (Cr.out _ (HX6.out.then hSr17_6.1)).mono ?_;rintro e wc ⟨rfl,hxc⟩);refine hK.out _ _ (HSS.out wc ((hSr17_6.1).then hxc)) (λhSr17_14=>?_);clear hK K;try simp only[Act.put,Sa,Sb1,Sc]
       refine WZ.one (i:=15) rfl Kr (by decide) (λK hK=>?_);go_simp;go_wp2_with (go_at_call 17;refine (Vm xr _).mono ?_;rintro e wd ⟨rfl,hxd⟩);refine hK.out _ _ (HSS.out wd ((hSr17_14.1).then hxd)) (λhSr17_15=>?_);clear hK K;try simp only[Act.put,Sa,Sb1,Sc]
       refine WL.go [(16,110),(17,111),(18,112),(19,113),(20,114),(21,115),(22,116),(23,117)] ?_;iterate 8 (refine WL.tk (v:=?_) rfl rfl Kr (λ_ _ _ h=>h) (Or.inl ⟨Rf,?_⟩) (by assumption) ?_;rotate_left;(focus (intro w hSw;(try obtain⟨sf,v0,v2,v3,v4,v5,v6,v7,v8,v9,v10,v11,lb⟩:=hSw);go_simp;(try with_reducible rfl)));simp only[Act.put,Sa,Sb1,Sc])
       refine WZ.one (i:=24) rfl Kr (by decide) (λK hK=>?_);go_simp;go_wp2_with (go_at_call 18;refine (Cp.out _ (HX6.out.then hSr17_15.1)).mono ?_;rintro e we ⟨rfl,hxe⟩);refine hK.out _ _ (HSS.out we ((hSr17_15.1).then hxe)) (λhSr17_24=>?_);clear hK K;try simp only[Act.put,Sa,Sb1,Sc]
       refine WZ.one (i:=25) rfl Kr (by decide) (λK hK=>?_);go_simp;go_wp2_with (go_at_call 17;refine (Vm xp _).mono ?_;rintro e wf ⟨rfl,hxf⟩);refine hK.out _ _ (HSS.out wf ((hSr17_24.1).then hxf)) (λhSr17_25=>?_);clear hK K;try simp only[Act.put,Sa,Sb1,Sc]
       refine WL.go [(26,120),(27,121),(28,122),(29,123),(30,124),(31,125),(32,126),(33,127)] ?_;iterate 8 (refine WL.tk (v:=?_) rfl rfl Kr (λ_ _ _ h=>h) (Or.inl ⟨Rf,?_⟩) (by assumption) ?_;rotate_left;(focus (intro w hSw;(try obtain⟨sf,v0,v2,v3,v4,v5,v6,v7,v8,v9,v10,v11,lb⟩:=hSw);go_simp;(try with_reducible rfl)));simp only[Act.put,Sa,Sb1,Sc])
       refine WZ.one (i:=34) rfl Kr (by decide) (λK hK=>?_);go_simp;go_wp2_with (go_at_call 18;refine (Ct.out _ (HX6.out.then hSr17_25.1)).mono ?_;rintro e wg ⟨rfl,hxg⟩);refine hK.out _ _ (HSS.out wg ((hSr17_25.1).then hxg)) (λhSr17_34=>?_);clear hK K;try simp only[Act.put,Sa,Sb1,Sc]
       refine WZ.one (i:=35) rfl Kr (by decide) (λK hK=>?_);go_simp;go_wp2_with (go_at_call 17;refine (Vm xt _).mono ?_;rintro e wh ⟨rfl,hxh⟩);refine hK.out _ _ (HSS.out wh ((hSr17_34.1).then hxh)) (λhSr17_35=>?_);clear hK K;try simp only[Act.put,Sa,Sb1,Sc]
       refine WL.go [(36,130),(37,131),(38,132),(39,133),(40,134),(41,135),(42,136),(43,137)] ?_;iterate 8 (refine WL.tk (v:=?_) rfl rfl Kr (λ_ _ _ h=>h) (Or.inl ⟨Rf,?_⟩) (by assumption) ?_;rotate_left;(focus (intro w hSw;(try obtain⟨sf,v0,v2,v3,v4,v5,v6,v7,v8,v9,v10,v11,lb⟩:=hSw);go_simp;(try with_reducible rfl)));simp only[Act.put,Sa,Sb1,Sc])
       refine WZ.one (i:=44) rfl Kr (by decide) (λK hK=>?_);go_simp;go_wp2_with (go_at_call 18;refine (Cf.out _ (HX6.out.then hSr17_35.1)).mono ?_;rintro e wi ⟨rfl,hxi⟩);refine hK.out _ _ (HSS.out wi ((hSr17_35.1).then hxi)) (λhSr17_44=>?_);clear hK K;try simp only[Act.put,Sa,Sb1,Sc]
       refine WZ.one (i:=45) rfl Kr (by decide) (λK hK=>?_);go_simp;go_wp2_with (go_at_call 17;refine (Vm xf _).mono ?_;rintro e wj ⟨rfl,hxj⟩);refine hK.out _ _ (HSS.out wj ((hSr17_44.1).then hxj)) (λhSr17_45=>?_);clear hK K;try simp only[Act.put,Sa,Sb1,Sc]
       refine WL.go [(46,140)] ?_;iterate 1 (refine WL.tk (v:=?_) rfl rfl Kr (λ_ _ _ h=>h) (Or.inl ⟨Rf,?_⟩) (by assumption) ?_;rotate_left;(focus (intro w hSw;(try obtain⟨sf,v0,v2,v3,v4,v5,v6,v7,v8,v9,v10,v11,lb⟩:=hSw);go_simp;(try with_reducible rfl)));simp only[Act.put,Sa,Sb1,Sc])
       refine WZ.last rfl Kr Kr (λK hK=>?_);go_simp;refine hK.out _ _ ?_;clear hK K;go_wp2_with fail
       go_roundg (n-(i+1))
       case measure=>omega
       case rel=>exact⟨i+1,by go_num,Om,Om,((HR.out.then HX5.out).then HX6.out).then hSr17_45.1⟩
     ·obtain rfl:i=n:=Om
      have HX9:=Hd ((HX1.out.then HY4.out).then HR.out)
      go_wp2_with (first
       | (go_at_call 11;refine (Y9 _ (H.out.2.ext HX9.out).u8).mono ?_;rintro e w9 ⟨rfl,hx⟩;have HYY:=Hd hx;clear hx)
       | fail)
      go_ret;exact⟨rfl,HX9.out.then HYY.out⟩
  ·go_enter Tryz.func5,Tryz.ntmps5
   go_wp2_with (first
    | (go_at_call 9;refine (CF.out _ ((Fl w).alloc _)).mono ?_;rintro e w1 ⟨rfl,hx⟩;have HX:=Hd hx;clear hx)
    | fail)
   go_ret;exact⟨rfl,((Fl w).alloc _).then HX.out⟩
end Go.Proofs.YtoliamijgmifkaaGreatDoor
