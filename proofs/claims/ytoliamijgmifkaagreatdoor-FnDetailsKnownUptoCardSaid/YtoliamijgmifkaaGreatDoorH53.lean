/- laws.FnDetailsKnown: the walk. -/
import Derived.Test.YtoliamijgmifkaaGreatDoorH42
import Derived.Test.YtoliamijgmifkaaGreatDoorH47
import Derived.Test.YtoliamijgmifkaaGreatDoorH52
set_option linter.all false
set_option maxRecDepth 100000
set_option maxHeartbeats 1500000
namespace Go.Proofs.YtoliamijgmifkaaGreatDoor
open Go.RowKit DT SS TR LT
theorem Zd0(d:Zj)(cs:List Value)(O:Nat->Prop)(s:ByteArray)(mode:Int)(w:World)(h:tDict.R w O d cs)(hs:s.size<=9223372036854775807)(hT:Di w)(hb:∀ u∈d.user,total u.tokens<=1048576/\total u.yomi<=1048576) :
  Calls Tryz.prog 3 #[.agg cs.toArray,.string s,.int .i64 mode] w λe w'=>e=.returned (.bool true)/\Zg w w':=by
 have mixed:Tryz.prog.follows .mixedOrders=true:=Kr
 have H:=Hd (Ai1 h hT);have CF:=Hd (λW (f:Zg w W)=>Tr W O d cs (tDict.ext h f));obtain⟨A1,c1,A2,c2,A3,c3,A4,c4,A5,c5,A6,c6,A7,c7,A8,c8,rfl,_⟩:=Ye h;clear h hT;have B0:=alloc_at w (.cells #[.slice A1 d.words.length c1,.int .i64 d.rows,.int .i64 d.cols,.slice A2 d.costs.length c2,.slice A3 d.classes.length c3,.slice A4 d.chars.length c4,.slice A5 d.unknown.length c5,.slice A6 d.meta0.length c6,.slice A7 d.unkMeta.length c7,.bool d.hasUser,.slice A8 d.user.length c8] 30);have HB:=Hd B0;clear B0
 cases hf:Yn d with
 | false =>
  rw[hf]at CF;clear hf;go_enter Tryz.func3,Tryz.ntmps3
  go_wp2_with (first
   | (go_at_call 9;refine (CF.out _ ((Fl w).alloc _)).mono ?_;rintro e w1 ⟨rfl,hx⟩;have HX:=Hd hx;clear hx)
   | fail)
  go_ret;exact⟨rfl,((Fl w).alloc _).then HX.out⟩
 | true =>
  rw[hf]at CF;by_cases hl:s.size<=2147483647
  ·have CG:=Hd (λW (f:Zg w W) A c (ha:Ty.str.At W (λ_=>True) A [s])=>J3 W O (λ_=>True) d _ A c [s] (tDict.ext H.out.1 f) hf (H.out.2.ext f).u8 ha);have HF:=Hd hf;clear hf;go_enter Tryz.func3,Tryz.ntmps3
   go_upto_region 3 with (first
    | (go_at_call 9;refine (CF.out _ ((Fl w).alloc _)).mono ?_;rintro e w1 ⟨rfl,hx⟩;have HX:=Hd hx;clear hx)
    | fail)
   have k0:∀ (W:World),Zg w1 W->∀ j u,(#[Value.slice A1 d.words.length c1,.int .i64 d.rows,.int .i64 d.cols,.slice A2 d.costs.length c2,.slice A3 d.classes.length c3,.slice A4 d.chars.length c4,.slice A5 d.unknown.length c5,.slice A6 d.meta0.length c6,.slice A7 d.unkMeta.length c7,.bool d.hasUser,.slice A8 d.user.length c8])[j]?=some u->W.cell? ⟨w.heap.size,j,none⟩=some u:=λW f j u hj=>Zb (f.heap (HX.out.heap HB.out id) id) j u hj
   have KC:Hid (∀ (W:World),Zg w1 W->W.cell? ⟨w.heap.size,0,none⟩=some (.slice A1 d.words.length c1)/\W.cell? ⟨w.heap.size,1,none⟩=some (.int .i64 d.rows)/\W.cell? ⟨w.heap.size,2,none⟩=some (.int .i64 d.cols)/\W.cell? ⟨w.heap.size,3,none⟩=some (.slice A2 d.costs.length c2)/\W.cell? ⟨w.heap.size,4,none⟩=some (.slice A3 d.classes.length c3)/\W.cell? ⟨w.heap.size,5,none⟩=some (.slice A4 d.chars.length c4)/\W.cell? ⟨w.heap.size,6,none⟩=some (.slice A5 d.unknown.length c5)/\W.cell? ⟨w.heap.size,7,none⟩=some (.slice A6 d.meta0.length c6)/\W.cell? ⟨w.heap.size,8,none⟩=some (.slice A7 d.unkMeta.length c7)/\W.cell? ⟨w.heap.size,9,none⟩=some (.bool d.hasUser)/\W.cell? ⟨w.heap.size,10,none⟩=some (.slice A8 d.user.length c8)/\w.heap.size<W.heap.size):=λW f =>
    ⟨k0 W f 0 _ rfl,k0 W f 1 _ rfl,k0 W f 2 _ rfl,k0 W f 3 _ rfl,k0 W f 4 _ rfl,k0 W f 5 _ rfl,k0 W f 6 _ rfl,k0 W f 7 _ rfl,k0 W f 8 _ rfl,k0 W f 9 _ rfl,k0 W f 10 _ rfl,lt_of_cell (k0 W f 0 _ rfl)⟩
   have HX1:=Hd (((Fe w).alloc _).then HX.out);obtain⟨q0,q1,q2,q3,q4,q5,q6,q7,q8,q9,q10,ql⟩:=KC.out w1 (Fl w1);clear k0 HX HB CF
   cases hfi:Tn d [s] with
   | false =>
    rw[hfi]at CG;clear hfi
    go_wp2_with (first
     | (go_at_call 10;refine (CG.out _ (HX1.out.alloc _) _ _ (Xr w1 s hs)).mono ?_;rintro e w2 ⟨rfl,hx⟩;have HY2:=Hd ((HX1.out.alloc _).then hx);clear hx)
     | (go_at_call 11;refine (Y9 _ (H.out.2.ext HY2.out).u8).mono ?_;rintro e w3 ⟨rfl,hx⟩;have HY3:=Hd (HY2.out.then hx);clear hx)
     | fail)
    go_ret;exact⟨rfl,HY3.out⟩
   | true =>
    rw[hfi]at CG;obtain⟨⟨hrd,hsz⟩,hr,hd,hu,-⟩:=J2 hfi HF.out;by_cases h2:d.words.length<2
    ·clear hrd hsz hr hd hu hfi;have hw3:(d.words.length:Int)<2:=Om;clear h2
     go_wp2_with (first
      | (go_at_call 10;refine (CG.out _ (HX1.out.alloc _) _ _ (Xr w1 s hs)).mono ?_;rintro e w2 ⟨rfl,hx⟩;clear q0 q1 q2 q3 q4 q5 q6 q7 q8 q9 q10 ql;obtain⟨q0,q1,q2,q3,q4,q5,q6,q7,q8,q9,q10,ql⟩:=KC.out _ (((Fl w1).alloc _).then hx);have HY2:=Hd ((HX1.out.alloc _).then hx);clear hx)
      | (go_at_call 11;refine (Y9 _ (H.out.2.ext HY2.out).u8).mono ?_;rintro e w3 ⟨rfl,hx⟩;have HY3:=Hd (HY2.out.then hx);clear hx)
      | fail)
     go_ret;exact⟨rfl,HY3.out⟩
    have hw3:decide ((d.words.length:Int)<2)=false:=decide_eq_false Om;clear h2;obtain⟨TL,hTL⟩:∃ TL,TL=Xn (Zz d (Vg d)) false (Wu mode) s:=⟨_,rfl⟩;have CA:=Hd (λW (f:Zg w W)=>Va d _ O (Vg d) (xOf d) (Uh hu) s hrd hsz mode false W (tDict.ext H.out.1 f) (H.out.2.ext f).u8 hd hr (Xp d _ O W (tDict.ext H.out.1 f) (H.out.2.ext f) hd hr hu));have CB:=Hd (λW (f:Zg w W)=>Rp d _ O (Vg d) (xOf d) (usL d) s hrd hsz mode W (tDict.ext H.out.1 f) (H.out.2.ext f) (H.out.2.ext f).u8 hd hr (Xp d _ O W (tDict.ext H.out.1 f) (H.out.2.ext f) hd hr hu) (λW v kd H U ku w' ha=>Gp hfi HF.out hb ha) (Re hr hd _ _ (Rk hu) hrd hsz false (Wu mode)) (Vl hr hd _ (Uh hu) hrd hsz false (Wu mode)));have HIN:=Hd (Re hr hd _ _ (Rk hu) hrd hsz false (Wu mode));have hlen:=Vl hr hd _ (Uh hu) hrd hsz false (Wu mode);rw[<- hTL]at CA CB hlen HIN;have HDO:=Hd hd;clear hrd hsz hr hd hu hfi hTL HF;generalize usL d=us at *;obtain⟨n,hne⟩:∃ n,n=TL.length:=⟨_,rfl⟩;have HN:=Hd hne;rw[<- hne]at hlen;clear hne
    go_upto_region 7 with (first
     | (go_at_call 10;refine (CG.out _ (HX1.out.alloc _) _ _ (Xr w1 s hs)).mono ?_;rintro e w2 ⟨rfl,hx⟩;clear q0 q1 q2 q3 q4 q5 q6 q7 q8 q9 q10 ql;obtain⟨q0,q1,q2,q3,q4,q5,q6,q7,q8,q9,q10,ql⟩:=KC.out _ (((Fl w1).alloc _).then hx);have HY2:=Hd (((Fe w1).alloc _).then hx);clear hx)
     | (go_at_call 12;refine (CA.out _ (HX1.out.then HY2.out)).mono ?_;rintro e w3 ⟨vl,rfl,hrl,hx⟩;clear q0 q1 q2 q3 q4 q5 q6 q7 q8 q9 q10 ql;obtain⟨q0,q1,q2,q3,q4,q5,q6,q7,q8,q9,q10,ql⟩:=KC.out _ (HY2.out.then hx);have HY3:=Hd (HY2.out.then hx);clear hx;rw[<- HN.out]at hrl;obtain⟨Al,cl,el⟩:=Zn hrl;subst el;have HRL:=Hd hrl;clear hrl)
     | (go_at_call 13;refine (CB.out _ (HX1.out.then HY3.out)).mono ?_;rintro e w4 ⟨vm,rfl,hrm,hx⟩;clear q0 q1 q2 q3 q4 q5 q6 q7 q8 q9 q10 ql;obtain⟨q0,q1,q2,q3,q4,q5,q6,q7,q8,q9,q10,ql⟩:=KC.out _ (HY3.out.then hx);obtain⟨Am,cm,em⟩:=hrm.own;rw[List.length_map,<- HN.out]at em;subst em;have HRM:=Hd (Ai1 (Zu HRL.out hx (λ_ _ e=>e)) hrm);have HY4:=Hd (HY3.out.then hx);clear hx hrm HRL)
     | fail)
    clear CG CA CB;have CO:=Hd (λW (f:Zg w W)=>Zds (tDict.ext H.out.1 f) HDO.out.words)
    go_upto_region 10 with (first
     | (go_at_call 14;refine (CO.out _ (HX1.out.then HY4.out)).mono ?_;rintro e w5 ⟨AW,cW,rfl,hrw,hx⟩;have HRW:=Hd hrw;have HZ5:=Hd hx;clear hrw hx)
     | fail)
    clear q0 q1 q2 q3 q4 q5 q6 q7 q8 q9 q10 ql CO;go_wp2_with fail
    go_loopg [66] n (λg1 v66 wr=>∃ i:Nat,v66=.int .i64 (i:Int)/\i<=n/\n<=i+g1/\Hid (Zg w5 wr))
    case atStart=>exact⟨0,rfl,Om,Om,Fl _⟩
    case round =>
     obtain⟨i,rfl,hi,hg,HR⟩:=hrel;by_cases hlt:i<n
     ·have hlz:(i:Int)<(n:Int):=Om;have hz0:(0:Int)<=(i:Int):=Om;have hil:i<TL.length:=by rw[<- HN.out];exact hlt
      obtain⟨gl,rfl,ll,hcl⟩:=Znc HRM.out.1 (HZ5.out.then HR.out) (λ_ _ _ e=>e) HN.out i hil;obtain⟨bm,om,csm,rfl,lm,hrm,hcm⟩:=((HRM.out.2.ext HZ5.out).ext HR.out).elem i (by rw[List.length_map];exact hil);rw[List.getElem_map]at hrm;have HTI:=Hd (HIN.out TL[i] (List.getElem_mem hil));generalize TL[i]=t at *;obtain⟨vF,vP,vT,vY,rfl,hF,hP,_,_⟩:=hrm;have q0:wr.cell? ⟨gl,i*7,none⟩=some (.int .i64 t.index):=hcl 0 Om;have q1:wr.cell? ⟨gl,i*7+1,none⟩=some (.int .i64 t.id):=hcl 1 Om;have q2:wr.cell? ⟨gl,i*7+2,none⟩=some (.int .i64 t.cls):=hcl 2 Om;have q3:wr.cell? ⟨gl,i*7+3,none⟩=some (.int .i64 t.pos):=hcl 3 Om;have q4:wr.cell? ⟨gl,i*7+4,none⟩=some (.int .i64 t.start):=hcl 4 Om;have q5:wr.cell? ⟨gl,i*7+5,none⟩=some (.int .i64 t.fin):=hcl 5 Om;have q6:wr.cell? ⟨gl,i*7+6,none⟩=some (.string t.surf):=hcl 6 Om;have m0:wr.cell? ⟨bm,om+i*20,none⟩=some vF:=hcm 0 (by show 0<20;omega);have m1:wr.cell? ⟨bm,om+i*20+1,none⟩=some vP:=hcm 1 (by show 1<20;omega);have m12:wr.cell? ⟨bm,om+i*20+12,none⟩=some (.bool (Wr us t).isSome):=hcm 12 (by show 12<20;omega);have m16:wr.cell? ⟨bm,om+i*20+16,none⟩=some (.string (Yo t.cls)):=hcm 16 (by show 16<20;omega);have HMM:=Hd (Ai1 (Ai1 m0 m1) (Ai1 m12 m16));have HSR:=Hd (Ai1 hF hP);clear hcl hcm m0 m1 m12 m16 hF hP;go_upto_region 13 with fail
      obtain⟨tb,htb⟩:∃ tb,tb=wr.heap.size:=⟨_,rfl⟩;rw[<- htb];have K1:=alloc_at' wr (.cells (Ru t).toArray 42) htb;have X1:Zg wr (wr.alloc (.cells (Ru t).toArray 42)):=(Fl wr).alloc _;have HX5:=Hd X1;have HK1:=Hd K1;clear X1 K1 htb q0 q1 q2 q3 q4 q5 q6 ll lm;generalize World.alloc wr _=w6 at *;have tc:=cell_of HK1.out 2 (.int .i64 (t.cls:Int)) rfl;have ltb:=lt_of_cell tc;have hc4:t.cls=0\/t.cls=2\/t.cls=3\/t.cls=1:=by have:=HTI.out.cls;omega
      rcases hc4 with hc|hc|hc|hc
      iterate 3
       focus
        rw[hc]at tc;clear hc;go_wp2_with fail
        go_roundg (n-(i+1))
        case measure=>omega
        case rel=>exact⟨i+1,by go_num,Om,Om,HR.out.then HX5.out⟩
      obtain⟨q,hq,hqu⟩:=HTI.out.known hc;have HWX:=Hd (HR.out.then HX5.out);obtain⟨ub,uo,vp,vq,hAW,_,_,ut,uy,_,u0,u1,u2,u3,u4,u5⟩:=Km (Yc HRW.out HWX.out) q hqu;have hro:wOf d t=(Zv d)[q]:=by unfold wOf;rw[hq,Int.toNat_natCast,List.getD_eq_getElem?_getD,Ge hqu];rfl
      have hbu:=HDO.out.word _ ((sortL_perm Wq d.words).mem_iff.1 (List.getElem_mem hqu));have hql:q<d.words.length:=by rw[<- Gy];exact hqu
      generalize (Zv d)[q]=r at *;obtain⟨AU,cU,rfl⟩:=Yf ut;obtain⟨AV,cV,rfl⟩:=Yf uy;obtain⟨hF,hP⟩:=HSR.out;obtain⟨⟨m0,m1⟩,m12,m16⟩:=HMM.out;have e0:(Wr us t).isSome=false:=by unfold Wr;rw[if_neg Om];rfl
      have e1:(Mb d us t).feats=r.pos++r.contents:=by show Z8 d us t=_;unfold Z8;rw[if_pos hc,hro]
      have e2:(Mb d us t).pos=r.pos:=by show Vz d us t=_;unfold Vz;rw[if_pos hc,hro]
      have e3:Yo t.cls=⟨#[75,78,79,87,78]⟩:=by rw[hc];rfl
      rw[e1]at hF;rw[e2]at hP;rw[e0]at m12;rw[e3]at m16;rw[hc]at tc;obtain⟨AF,cF,rfl⟩:=Yf hF;obtain⟨AP,cP,rfl⟩:=Yf hP;have tc1:=cell_of HK1.out 1 (.int .i64 t.id) rfl;rw[hq]at tc1;have hq0:(0:Int)<=(q:Int):=Om;have hqi:(q:Int)<(d.words.length:Int):=Om;have m0:=HX5.out.cell m0 id;have m1:=HX5.out.cell m1 id;have m12:=HX5.out.cell m12 id;have m16:=HX5.out.cell m16 id;have HSS:=Hd (Ai1 (Ai1 (strs.ext hF HX5.out) (strs.ext hP HX5.out)) (Ai1 ut uy));have lu:=lt_of_cell u0;have lb:=lt_of_cell m0;have HB2:=Hd hbu;clear hc e0 e1 e2 e3 hro ut uy hF hP HSR HMM hq hqu hbu hql;subst hAW;obtain⟨hb1,hb2⟩:=HB2.out;clear HB2;generalize r.pos=rp at *;generalize r.contents=rc at *;obtain⟨rz,hrz⟩:∃ z,z=rp++rc:=⟨_,rfl⟩;rw[<- hrz]at m0 HSS;have HRZ:=Hd hrz;clear hrz;go_upto_region 15 with fail
      obtain⟨bx,hbx⟩:∃ bx,bx=w6.heap.size:=⟨_,rfl⟩;rw[<- hbx];have K7:=alloc_at' w6 (.cells #[.string r.surface,.int .i64 r.left,.int .i64 r.right,.int .i64 r.weight,.slice AU rp.length cU,.slice AV rc.length cV] 45) hbx;have X7:Zg w6 (w6.alloc (.cells #[.string r.surface,.int .i64 r.left,.int .i64 r.right,.int .i64 r.weight,.slice AU rp.length cU,.slice AV rc.length cV] 45)):=(Fl w6).alloc _;have HX7:=Hd X7
      have HSW:Hid (∀ W,Zg (w6.alloc (.cells #[.string r.surface,.int .i64 r.left,.int .i64 r.right,.int .i64 r.weight,.slice AU rp.length cU,.slice AV rc.length cV] 45)) W->Zg (w6.alloc (.cells #[.string r.surface,.int .i64 r.left,.int .i64 r.right,.int .i64 r.weight,.slice AU rp.length cU,.slice AV rc.length cV] 45)) W/\W.cell? ⟨bm,om+i*20,none⟩=some (.slice AF rz.length cF)/\W.cell? ⟨bm,om+i*20+1,none⟩=some (.slice AP rp.length cP)/\W.cell? ⟨bm,om+i*20+12,none⟩=some (.bool false)/\W.cell? ⟨bm,om+i*20+16,none⟩=some (.string ⟨#[75,78,79,87,78]⟩)/\W.cell? ⟨bx,4,none⟩=some (.slice AU rp.length cU)/\W.cell? ⟨bx,5,none⟩=some (.slice AV rc.length cV)/\bm<W.heap.size/\bx<W.heap.size):=λW f =>
       ⟨f,f.cell (X7.cell m0 id) id,f.cell (X7.cell m1 id) id,f.cell (X7.cell m12 id) id,f.cell (X7.cell m16 id) id,cell_of (f.heap K7 id) 4 _ rfl,cell_of (f.heap K7 id) 5 _ rfl,Nat.lt_of_lt_of_le lb (Z0 X7 f).size,lt_of_cell (cell_of (f.heap K7 id) 4 _ rfl)⟩
      clear K7 X7 hbx m0 m1 m12 m16 tc tc1 u0 u1 u2 u3 u4 u5 lu lb ltb;generalize World.alloc w6 _=w7 at *;refine Yh 39 40 #[false,false,false,false,false,false,false,false,false,false,false,false,false,false,false,false,false,false,false,false,false,false,false,false,false,false,false,false,false,false,false,false,false,false,false,false,false,false,false,false] (λW=>Zg w7 W/\W.cell? ⟨bm,om+i*20,none⟩=some (.slice AF rz.length cF)/\W.cell? ⟨bm,om+i*20+1,none⟩=some (.slice AP rp.length cP)/\W.cell? ⟨bm,om+i*20+12,none⟩=some (.bool false)/\W.cell? ⟨bm,om+i*20+16,none⟩=some (.string ⟨#[75,78,79,87,78]⟩)/\W.cell? ⟨bx,4,none⟩=some (.slice AU rp.length cU)/\W.cell? ⟨bx,5,none⟩=some (.slice AV rc.length cV)/\bm<W.heap.size/\bx<W.heap.size) mixed rfl rfl (HSW.out w7.drew (Fl w7).drew) (λhS=>?_);refine WL.go [(0,79),(1,80),(2,81),(3,82),(4,83),(5,84),(6,85)] ?_;iterate 7 (first|(refine WL.tk (v:=undef) rfl rfl Kr (λ_ _ _ h=>h) (Or.inr ⟨Rf,rfl⟩) (by assumption) ?_;simp only[Act.put,Sa,Sb1,Sc])|(refine WL.tk (v:=?_) rfl rfl Kr (λ_ _ _ h=>h) (Or.inl ⟨Rf,?_⟩) (by assumption) ?_;rotate_left;(focus (intro w hSw;(try obtain⟨sf,v0,v1,v12,v16,x4,x5,lb,lx⟩:=hSw);go_simp;(try with_reducible rfl)));simp only[Act.put,Sa,Sb1,Sc]))
      first
      | (refine WZ.take (i:=7) (dst:=some 86) (v:=undef) rfl rfl Kr (λ_ _ _ h=>h) (Or.inr ⟨Rf,rfl⟩) (by assumption) ?_;simp only[Act.put,Sa,Sb1,Sc])
      | (refine WZ.one (i:=7) rfl Kr (by decide) (λK hK=>?_);go_simp;go_wp2_with (go_at_call 15;refine (V2 (strs.ext HSS.out.1.2 (HX7.out.then ((Fl w7).drew))) (strs.ext HSS.out.2.1 (HX7.out.then ((Fl w7).drew)))).mono ?_;rintro e wa ⟨rfl,hxa⟩);refine hK.out _ _ (HSW.out wa (((Fl w7).drew).then hxa)) (λhSr15_7=>?_);clear hK K;try simp only[Act.put,Sa,Sb1,Sc])
      refine WL.go [(8,87),(9,88),(10,89),(11,90),(12,91),(13,92),(14,93),(16,95),(17,96),(19,98),(20,99)] ?_;iterate 11 (first|(refine WL.tk (v:=undef) rfl rfl Kr (λ_ _ _ h=>h) (Or.inr ⟨Rf,rfl⟩) (by assumption) ?_;simp only[Act.put,Sa,Sb1,Sc])|(refine WL.tk (v:=?_) rfl rfl Kr (λ_ _ _ h=>h) (Or.inl ⟨Rf,?_⟩) (by assumption) ?_;rotate_left;(focus (intro w hSw;(try obtain⟨sf,v0,v1,v12,v16,x4,x5,lb,lx⟩:=hSw);go_simp;(try with_reducible rfl)));simp only[Act.put,Sa,Sb1,Sc]))
      first
      | (refine WZ.take (i:=15) (dst:=some 94) (v:=undef) rfl rfl Kr (λ_ _ _ h=>h) (Or.inr ⟨Rf,rfl⟩) (by assumption) ?_;simp only[Act.put,Sa,Sb1,Sc])
      | (refine WZ.one (i:=15) rfl Kr (by decide) (λK hK=>?_);go_simp;refine hK.out _ _ (HSW.out _ (hSr15_7.1.alloc _)) (λhSr15_15=>?_);clear hK K;try simp only[Act.put,Sa,Sb1,Sc])
      first
      | (refine WZ.take (i:=18) (dst:=some 97) (v:=undef) rfl rfl Kr (λ_ _ _ h=>h) (Or.inr ⟨Rf,rfl⟩) (by assumption) ?_;simp only[Act.put,Sa,Sb1,Sc])
      | (refine WZ.one (i:=18) rfl Kr (by decide) (λK hK=>?_);refine M2 Rf _ _ Rf wa.heap.size (.slice (some ⟨wa.heap.size,0,none⟩) 0 0) [] rp rp rfl Rf (World.ownsRow_made wa #[] 0 (Nl _) (by unfold maxLen;omega) (by simp)) AU cU Rf (strs.ext HSS.out.2.1 (HX7.out.then hSr15_15.1)) (by decide) Om (by rw[Za];omega) ?_;intro Aa ca wb ho1 hf1;refine hK.out _ _ (HSW.out wb (hSr15_15.1.trans hf1 (λk hk q=>by have:=hSr15_7.1.size;omega))) (λhSr15_18=>?_);clear hK K;try simp only[Act.put,Sa,Sb1,Sc])
      first
      | (refine WZ.take (i:=21) (dst:=some 100) (v:=undef) rfl rfl Kr (λ_ _ _ h=>h) (Or.inr ⟨Rf,rfl⟩) (by assumption) ?_;simp only[Act.put,Sa,Sb1,Sc])
      | (refine WZ.one (i:=21) rfl Kr (by decide) (λK hK=>?_);refine M2 Rf _ _ Rf wa.heap.size (.slice Aa rp.length ca) rp rc rz HRZ.out Rf ho1 AV cV Rf (strs.ext HSS.out.2.2 (HX7.out.then hSr15_18.1)) Om Om (Nt (by rw[Za];omega) hf1.size) ?_;intro Ab cb wc ho2 hf2;refine hK.out _ _ (HSW.out wc (hSr15_18.1.trans hf2 (λk hk q=>by have:=hSr15_7.1.size;omega))) (λhSr15_21=>?_);clear hK K;try simp only[Act.put,Sa,Sb1,Sc])
      first
      | (refine WZ.take (i:=22) (dst:=some 101) (v:=undef) rfl rfl Kr (λ_ _ _ h=>h) (Or.inr ⟨Rf,rfl⟩) (by assumption) ?_;simp only[Act.put,Sa,Sb1,Sc])
      | (refine WZ.one (i:=22) rfl Kr (by decide) (λK hK=>?_);go_simp;go_wp2_with (go_at_call 15;refine (V2 (strs.ext HSS.out.1.1 (HX7.out.then hSr15_21.1)) (Ww ho2 (λx hx=>by rw[HRZ.out]at hx;rcases List.mem_append.1 hx with q|q;exact Vc HSS.out.2.1 x q;exact Vc HSS.out.2.2 x q))).mono ?_;rintro e wd ⟨rfl,hxd⟩);refine hK.out _ _ (HSW.out wd (hSr15_21.1.then hxd)) (λhSr15_22=>?_);clear hK K;try simp only[Act.put,Sa,Sb1,Sc])
      refine WL.go [(23,102),(24,103),(25,104),(26,105),(27,106),(28,107),(29,108),(30,109),(31,110),(32,111),(33,112),(34,113),(35,114),(36,115),(37,116),(38,117)] ?_;iterate 16 (first|(refine WL.tk (v:=undef) rfl rfl Kr (λ_ _ _ h=>h) (Or.inr ⟨Rf,rfl⟩) (by assumption) ?_;simp only[Act.put,Sa,Sb1,Sc])|(refine WL.tk (v:=?_) rfl rfl Kr (λ_ _ _ h=>h) (Or.inl ⟨Rf,?_⟩) (by assumption) ?_;rotate_left;(focus (intro w hSw;(try obtain⟨sf,v0,v1,v12,v16,x4,x5,lb,lx⟩:=hSw);go_simp;(try with_reducible rfl)));simp only[Act.put,Sa,Sb1,Sc]))
      refine WZ.last rfl Kr Kr (λK hK=>?_);go_simp;refine hK.out _ _ ?_;clear hK K;go_wp2_with fail
      go_roundg (n-(i+1))
      case measure=>omega
      case rel=>exact⟨i+1,by go_num,Om,Om,((HR.out.then HX5.out).then HX7.out).then hSr15_22.1⟩
     ·obtain rfl:i=n:=Om
      have HX9:=Hd (((HX1.out.then HY4.out).then HZ5.out).then HR.out)
      go_wp2_with (first
       | (go_at_call 11;refine (Y9 _ (H.out.2.ext HX9.out).u8).mono ?_;rintro e w9 ⟨rfl,hx⟩;have HYY:=Hd hx;clear hx)
       | fail)
      go_ret;exact⟨rfl,HX9.out.then HYY.out⟩
  ·go_enter Tryz.func3,Tryz.ntmps3
   go_wp2_with (first
    | (go_at_call 9;refine (CF.out _ ((Fl w).alloc _)).mono ?_;rintro e w1 ⟨rfl,hx⟩;have HX:=Hd hx;clear hx)
    | fail)
   go_ret;exact⟨rfl,((Fl w).alloc _).then HX.out⟩
end Go.Proofs.YtoliamijgmifkaaGreatDoor
