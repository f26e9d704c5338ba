/- laws.FnUnknownPOS: the walk. -/
import Derived.Test.YtoliamijgmifkaaGreatDoorH42
import Derived.Test.YtoliamijgmifkaaGreatDoorH47
import Derived.Test.YtoliamijgmifkaaGreatDoorH43
import Derived.Test.YtoliamijgmifkaaGreatDoorH52
set_option linter.all false
set_option maxRecDepth 100000
set_option maxHeartbeats 2000000
namespace Go.Proofs.YtoliamijgmifkaaGreatDoor
open Go.RowKit DT SS TR LT
theorem Zi8(d:Zj)(cs:List Value)(O:Nat->Prop)(s:ByteArray)(mode:Int)(w:World)(h:tDict.R w O d cs)(hs:s.size<=9223372036854775807)(hT:Di w)(hb:∀ u∈d.user,total u.tokens<=1048576/\total u.yomi<=1048576) :
  Calls Tryz.prog 6 #[.agg cs.toArray,.string s,.int .i64 mode] w λe w'=>e=.returned (.bool true)/\Zg w w':=by
 have mixed:Tryz.prog.follows .mixedOrders=true:=Kr
 have H:=Hd (Ai1 h hT);have CF:=Hd (λW (f:Zg w W)=>Tr W O d cs (tDict.ext h f));obtain⟨A1,c1,A2,c2,A3,c3,A4,c4,A5,c5,A6,c6,A7,c7,A8,c8,rfl,_,_,_,_,_,_,h7,_⟩:=Ye h;have HMK:=Hd h7.2.2;clear h7;clear h hT;have B0:=alloc_at w (.cells #[.slice A1 d.words.length c1,.int .i64 d.rows,.int .i64 d.cols,.slice A2 d.costs.length c2,.slice A3 d.classes.length c3,.slice A4 d.chars.length c4,.slice A5 d.unknown.length c5,.slice A6 d.meta0.length c6,.slice A7 d.unkMeta.length c7,.bool d.hasUser,.slice A8 d.user.length c8] 30);have HB:=Hd B0;clear B0
 cases hf:Yn d with
 | false =>
  rw[hf]at CF;clear hf;go_enter Tryz.func6,Tryz.ntmps6
  go_wp2_with (first
   | (go_at_call 9;refine (CF.out _ ((Fl w).alloc _)).mono ?_;rintro e w1 ⟨rfl,hx⟩;have HX:=Hd hx;clear hx)
   | fail)
  go_ret;exact⟨rfl,((Fl w).alloc _).then HX.out⟩
 | true =>
  rw[hf]at CF;by_cases hl:s.size<=2147483647
  ·have CG:=Hd (λW (f:Zg w W) A c (ha:Ty.str.At W (λ_=>True) A [s])=>J3 W O (λ_=>True) d _ A c [s] (tDict.ext H.out.1 f) hf (H.out.2.ext f).u8 ha);have HF:=Hd hf;clear hf;go_enter Tryz.func6,Tryz.ntmps6
   go_upto_region 3 with (first
    | (go_at_call 9;refine (CF.out _ ((Fl w).alloc _)).mono ?_;rintro e w1 ⟨rfl,hx⟩;have HX:=Hd hx;clear hx)
    | fail)
   have k0:∀ (W:World),Zg w1 W->∀ j u,(#[Value.slice A1 d.words.length c1,.int .i64 d.rows,.int .i64 d.cols,.slice A2 d.costs.length c2,.slice A3 d.classes.length c3,.slice A4 d.chars.length c4,.slice A5 d.unknown.length c5,.slice A6 d.meta0.length c6,.slice A7 d.unkMeta.length c7,.bool d.hasUser,.slice A8 d.user.length c8])[j]?=some u->W.cell? ⟨w.heap.size,j,none⟩=some u:=λW f j u hj=>Zb (f.heap (HX.out.heap HB.out id) id) j u hj
   have KC:Hid (∀ (W:World),Zg w1 W->W.cell? ⟨w.heap.size,0,none⟩=some (.slice A1 d.words.length c1)/\W.cell? ⟨w.heap.size,1,none⟩=some (.int .i64 d.rows)/\W.cell? ⟨w.heap.size,2,none⟩=some (.int .i64 d.cols)/\W.cell? ⟨w.heap.size,3,none⟩=some (.slice A2 d.costs.length c2)/\W.cell? ⟨w.heap.size,4,none⟩=some (.slice A3 d.classes.length c3)/\W.cell? ⟨w.heap.size,5,none⟩=some (.slice A4 d.chars.length c4)/\W.cell? ⟨w.heap.size,6,none⟩=some (.slice A5 d.unknown.length c5)/\W.cell? ⟨w.heap.size,7,none⟩=some (.slice A6 d.meta0.length c6)/\W.cell? ⟨w.heap.size,8,none⟩=some (.slice A7 d.unkMeta.length c7)/\W.cell? ⟨w.heap.size,9,none⟩=some (.bool d.hasUser)/\W.cell? ⟨w.heap.size,10,none⟩=some (.slice A8 d.user.length c8)/\w.heap.size<W.heap.size):=λW f =>
    ⟨k0 W f 0 _ rfl,k0 W f 1 _ rfl,k0 W f 2 _ rfl,k0 W f 3 _ rfl,k0 W f 4 _ rfl,k0 W f 5 _ rfl,k0 W f 6 _ rfl,k0 W f 7 _ rfl,k0 W f 8 _ rfl,k0 W f 9 _ rfl,k0 W f 10 _ rfl,lt_of_cell (k0 W f 0 _ rfl)⟩
   have HX1:=Hd (((Fe w).alloc _).then HX.out);obtain⟨q0,q1,q2,q3,q4,q5,q6,q7,q8,q9,q10,ql⟩:=KC.out w1 (Fl w1);clear k0 HX HB CF
   cases hfi:Tn d [s] with
   | false =>
    rw[hfi]at CG;clear hfi
    go_wp2_with (first
     | (go_at_call 10;refine (CG.out _ (HX1.out.alloc _) _ _ (Xr w1 s hs)).mono ?_;rintro e w2 ⟨rfl,hx⟩;have HY2:=Hd ((HX1.out.alloc _).then hx);clear hx)
     | (go_at_call 11;refine (Y9 _ (H.out.2.ext HY2.out).u8).mono ?_;rintro e w3 ⟨rfl,hx⟩;have HY3:=Hd (HY2.out.then hx);clear hx)
     | fail)
    go_ret;exact⟨rfl,HY3.out⟩
   | true =>
    rw[hfi]at CG;obtain⟨⟨hrd,hsz⟩,hr,hd,hu,-⟩:=J2 hfi HF.out;by_cases h2:d.unknown.length<2\/mode=3
    ·clear hrd hsz hr hd hu hfi;rcases Nat.lt_or_ge d.unknown.length 2 with hu2|hu2
     ·have hu3:(d.unknown.length:Int)<2:=Om;clear h2
      go_wp2_with (first
       | (go_at_call 10;refine (CG.out _ (HX1.out.alloc _) _ _ (Xr w1 s hs)).mono ?_;rintro e w2 ⟨rfl,hx⟩;clear q0 q1 q2 q3 q4 q5 q6 q7 q8 q9 q10 ql;obtain⟨q0,q1,q2,q3,q4,q5,q6,q7,q8,q9,q10,ql⟩:=KC.out _ (((Fl w1).alloc _).then hx);have HY2:=Hd ((HX1.out.alloc _).then hx);clear hx)
       | (go_at_call 11;refine (Y9 _ (H.out.2.ext HY2.out).u8).mono ?_;rintro e w3 ⟨rfl,hx⟩;have HY3:=Hd (HY2.out.then hx);clear hx)
       | fail)
      go_ret;exact⟨rfl,HY3.out⟩
     ·have hu3:¬ (d.unknown.length:Int)<2:=Om;obtain rfl:mode=3:=Om
      clear h2
      go_wp2_with (first
       | (go_at_call 10;refine (CG.out _ (HX1.out.alloc _) _ _ (Xr w1 s hs)).mono ?_;rintro e w2 ⟨rfl,hx⟩;clear q0 q1 q2 q3 q4 q5 q6 q7 q8 q9 q10 ql;obtain⟨q0,q1,q2,q3,q4,q5,q6,q7,q8,q9,q10,ql⟩:=KC.out _ (((Fl w1).alloc _).then hx);have HY2:=Hd ((HX1.out.alloc _).then hx);clear hx)
       | (go_at_call 11;refine (Y9 _ (H.out.2.ext HY2.out).u8).mono ?_;rintro e w3 ⟨rfl,hx⟩;have HY3:=Hd (HY2.out.then hx);clear hx)
       | fail)
      go_ret;exact⟨rfl,HY3.out⟩
    have hu3:decide ((d.unknown.length:Int)<2)=false:=decide_eq_false Om;have hm3:(mode==3)=false:=beq_eq_false_iff_ne.2 Om;clear h2;obtain⟨TL,hTL⟩:∃ TL,TL=Xn (Zz d (Vg d)) false (Wu mode) s:=⟨_,rfl⟩;have CA:=Hd (λW (f:Zg w W)=>Va d _ O (Vg d) (xOf d) (Uh hu) s hrd hsz mode false W (tDict.ext H.out.1 f) (H.out.2.ext f).u8 hd hr (Xp d _ O W (tDict.ext H.out.1 f) (H.out.2.ext f) hd hr hu));have CB:=Hd (λW (f:Zg w W)=>Rp d _ O (Vg d) (xOf d) (usL d) s hrd hsz mode W (tDict.ext H.out.1 f) (H.out.2.ext f) (H.out.2.ext f).u8 hd hr (Xp d _ O W (tDict.ext H.out.1 f) (H.out.2.ext f) hd hr hu) (λW v kd H U ku w' ha=>Gp hfi HF.out hb ha) (Re hr hd _ _ (Rk hu) hrd hsz false (Wu mode)) (Vl hr hd _ (Uh hu) hrd hsz false (Wu mode)));have HIN:=Hd (Re hr hd _ _ (Rk hu) hrd hsz false (Wu mode));have hlen:=Vl hr hd _ (Uh hu) hrd hsz false (Wu mode);rw[<- hTL]at CA CB hlen HIN;have HDO:=Hd hd;have HMR:Hid (∀ m∈Zi d.unkMeta,0<=m.2/\m.2<=100):=λm h=>by obtain⟨x,hx,rfl⟩:=List.mem_map.1 h;exact On hr x (List.mem_append_right _ hx)
    clear hrd hsz hr hd hu hfi hTL HF;generalize usL d=us at *;obtain⟨n,hne⟩:∃ n,n=TL.length:=⟨_,rfl⟩;have HN:=Hd hne;rw[<- hne]at hlen;clear hne;have CO:=Hd (λW (f:Zg w W)=>Zed (tDict.ext H.out.1 f) HDO.out.unk);have CP:Hid (∀ W key,Zg w W->Calls Tryz.prog 19 #[.slice A7 d.unkMeta.length c7,.string key] W λe w'=>e=.returned (.tuple #[.int .i64 ((Yb (Zi d.unkMeta) key).getD 0),.bool (Yb (Zi d.unkMeta) key).isSome])/\Zg W w'):=λW key f=>Ei key (Yc HMK.out f)
    have hpu:∀ c,Tx (Zi d.unkMeta) c=Tx (Zi d.unkMeta) c:=λ_=>rfl
    conv at hpu=>intro c;rhs;unfold Tx Eh K5
    have HPU:=Hd hpu;clear hpu;generalize hma:Yb (Zi d.unkMeta) Ot=a at *;generalize hmb:Yb (Zi d.unkMeta) Jj=b at *;have hba:∀ v,a=some v->0<=v/\v<=100:=λv h=>by rw[<- hma]at h;obtain⟨m,hm,rfl⟩:=Ur h;exact HMR.out m hm
    have hbb:∀ v,b=some v->0<=v/\v<=100:=λv h=>by rw[<- hmb]at h;obtain⟨m,hm,rfl⟩:=Ur h;exact HMR.out m hm
    have C1:Hid (∀ W,Zg w W->Calls Tryz.prog 19 #[.slice A7 d.unkMeta.length c7,.string Ot] W λe w'=>e=.returned (.tuple #[.int .i64 (a.getD 0),.bool a.isSome])/\Zg W w'):=λW f=>by rw[<- hma];exact CP.out W Ot f
    have C2:Hid (∀ W,Zg w W->Calls Tryz.prog 19 #[.slice A7 d.unkMeta.length c7,.string Jj] W λe w'=>e=.returned (.tuple #[.int .i64 (b.getD 0),.bool b.isSome])/\Zg W w'):=λW f=>by rw[<- hmb];exact CP.out W Jj f
    clear CP hma hmb;obtain⟨st,hst⟩:∃ st,st=a.getD 0:=⟨_,rfl⟩;obtain⟨mn,hmn⟩:∃ mn,mn=b.getD 0:=⟨_,rfl⟩;obtain⟨en,hen⟩:∃ en,en=(match b with|some v=>st+v|none=>(1:Int)):=⟨_,rfl⟩;have HPU:Hid (∀ c,Tx (Zi d.unkMeta) c=if en<=st\/(c.length:Int)<en then [] else (c.take en.toNat).drop st.toNat):=λc=>by rw[hen,hst];exact HPU.out c
    have hstb:0<=st/\st<=100:=by
     rw[hst]
     cases a with
     | none=>exact⟨by decide,by decide⟩
     | some v=>exact hba v rfl
    have hmnb:0<=mn/\mn<=100:=by
     rw[hmn]
     cases b with
     | none=>exact⟨by decide,by decide⟩
     | some v=>exact hbb v rfl
    have henb:0<=en/\en<=200:=by
     rw[hen]
     cases b with
     | none=>exact⟨by show (0:Int)<=1;decide,by show (1:Int)<=200;decide⟩
     | some v=>have:=hbb v rfl;exact⟨by show 0<=st+v;omega,by show st+v<=200;omega⟩
    have hwp:IntKind.i64.wrap (st+mn)=st+mn:=by rw[IntKind.wrap_i64];omega
    have HEN:Hid (en=if b.isSome then st+mn else 1):=by show _=_;rw[hen,hmn];cases b<;>rfl
    rw[<- hst]at C1;rw[<- hmn]at C2;have HSB:=Hd (Ai1 hstb henb);clear hst hmn hen hstb hmnb henb hba hbb;generalize b.isSome=bq at *;generalize a.isSome=aq at *
    go_upto_region 7 with (first
     | (go_at_call 10;refine (CG.out _ (HX1.out.alloc _) _ _ (Xr w1 s hs)).mono ?_;rintro e w2 ⟨rfl,hx⟩;clear q0 q1 q2 q3 q4 q5 q6 q7 q8 q9 q10 ql;obtain⟨q0,q1,q2,q3,q4,q5,q6,q7,q8,q9,q10,ql⟩:=KC.out _ (((Fl w1).alloc _).then hx);have HY2:=Hd (((Fe w1).alloc _).then hx);clear hx)
     | (go_at_call 19;refine (C1.out _ (HX1.out.then HY2.out)).mono ?_;clear C1;rintro e wa ⟨rfl,hx⟩;clear q0 q1 q2 q3 q4 q5 q6 q7 q8 q9 q10 ql;obtain⟨q0,q1,q2,q3,q4,q5,q6,q7,q8,q9,q10,ql⟩:=KC.out _ (HY2.out.then hx);have HYA:=Hd (HY2.out.then hx);clear hx)
     | (go_at_call 19;refine (C2.out _ (HX1.out.then HYA.out)).mono ?_;rintro e wb ⟨rfl,hx⟩;clear q0 q1 q2 q3 q4 q5 q6 q7 q8 q9 q10 ql;obtain⟨q0,q1,q2,q3,q4,q5,q6,q7,q8,q9,q10,ql⟩:=KC.out _ (HYA.out.then hx);have HYB:=Hd (HYA.out.then hx);clear hx)
     | fail)
    go_cut [11] from 57 to 59 (λv11 wx=>v11=.int .i64 (st+mn)/\wb=wx)
    case first =>
     go_wp2_with fail
     go_meet
     case rel=>exact⟨rfl,rfl⟩
    case rest =>
    obtain⟨rfl,e4⟩:=hcut;subst e4;go_step;refine wp_seq_k λK hK=>?_
    go_cut [11] from 60 to 61 (λv11 wx=>v11=.int .i64 en/\wb=wx)
    case first =>
     cases bq with
     | true =>
      have em:en=st+mn:=HEN.out;have EM:=Hd em;clear em;go_wp2_with fail
      go_meet
      case rel=>exact⟨by rw[EM.out],rfl⟩
     | false =>
      have em:en=1:=HEN.out;have EM:=Hd em;clear em;go_wp2_with fail
      go_meet
      case rel=>exact⟨by rw[EM.out],rfl⟩
    case rest =>
    obtain⟨rfl,e5⟩:=hcut;subst e5;clear hwp;go_step
    go_upto_region 15 with (first
     | (go_at_call 12;refine (CA.out _ (HX1.out.then HYB.out)).mono ?_;rintro e w3 ⟨vl,rfl,hrl,hx⟩;clear q0 q1 q2 q3 q4 q5 q6 q7 q8 q9 q10 ql;obtain⟨q0,q1,q2,q3,q4,q5,q6,q7,q8,q9,q10,ql⟩:=KC.out _ (HYB.out.then hx);have HY3:=Hd (HYB.out.then hx);clear hx;rw[<- HN.out]at hrl;obtain⟨Al,cl,el⟩:=Zn hrl;subst el;have HRL:=Hd hrl;clear hrl)
     | (go_at_call 13;refine (CB.out _ (HX1.out.then HY3.out)).mono ?_;rintro e w4 ⟨vm,rfl,hrm,hx⟩;clear q0 q1 q2 q3 q4 q5 q6 q7 q8 q9 q10 ql;obtain⟨q0,q1,q2,q3,q4,q5,q6,q7,q8,q9,q10,ql⟩:=KC.out _ (HY3.out.then hx);obtain⟨Am,cm,em⟩:=hrm.own;rw[List.length_map,<- HN.out]at em;subst em;have HRM:=Hd (Ai1 (Zu HRL.out hx (λ_ _ e=>e)) hrm);have HY4:=Hd (HY3.out.then hx);clear hx hrm HRL)
     | (go_at_call 20;refine (CO.out _ (HX1.out.then HY4.out)).mono ?_;rintro e w5 ⟨AW,cW,rfl,hrw,hx⟩;have HRW:=Hd hrw;have HZ5:=Hd hx;clear hrw hx)
     | fail)
    clear q0 q1 q2 q3 q4 q5 q6 q7 q8 q9 q10 ql CO CG CA CB;go_wp2_with fail
    go_loopg [93] n (λg1 v93 wr=>∃ i:Nat,v93=.int .i64 (i:Int)/\i<=n/\n<=i+g1/\Hid (Zg w5 wr))
    case atStart=>exact⟨0,rfl,Om,Om,Fl _⟩
    case round =>
     obtain⟨i,rfl,hi,hg,HR⟩:=hrel;by_cases hlt:i<n
     ·have hlz:(i:Int)<(n:Int):=Om;have hz0:(0:Int)<=(i:Int):=Om;have hil:i<TL.length:=by rw[<- HN.out];exact hlt
      obtain⟨gl,rfl,ll,hcl⟩:=Znc HRM.out.1 (HZ5.out.then HR.out) (λ_ _ _ e=>e) HN.out i hil;obtain⟨bm,om,csm,rfl,lm,hrm,hcm⟩:=((HRM.out.2.ext HZ5.out).ext HR.out).elem i (by rw[List.length_map];exact hil);rw[List.getElem_map]at hrm;have HTI:=Hd (HIN.out TL[i] (List.getElem_mem hil));generalize TL[i]=t at *;obtain⟨vF,vP,vT,vY,rfl,hF,hP,_,_⟩:=hrm;have q0:wr.cell? ⟨gl,i*7,none⟩=some (.int .i64 t.index):=hcl 0 Om;have q1:wr.cell? ⟨gl,i*7+1,none⟩=some (.int .i64 t.id):=hcl 1 Om;have q2:wr.cell? ⟨gl,i*7+2,none⟩=some (.int .i64 t.cls):=hcl 2 Om;have q3:wr.cell? ⟨gl,i*7+3,none⟩=some (.int .i64 t.pos):=hcl 3 Om;have q4:wr.cell? ⟨gl,i*7+4,none⟩=some (.int .i64 t.start):=hcl 4 Om;have q5:wr.cell? ⟨gl,i*7+5,none⟩=some (.int .i64 t.fin):=hcl 5 Om;have q6:wr.cell? ⟨gl,i*7+6,none⟩=some (.string t.surf):=hcl 6 Om;have m0:wr.cell? ⟨bm,om+i*20,none⟩=some vF:=hcm 0 (by show 0<20;omega);have m1:wr.cell? ⟨bm,om+i*20+1,none⟩=some vP:=hcm 1 (by show 1<20;omega);have HMM:=Hd (Ai1 (Ai1 m0 m1) trivial);have HSR:=Hd (Ai1 hF hP);clear hcl hcm m0 m1 hF hP;go_upto_region 18 with fail
      obtain⟨tb,htb⟩:∃ tb,tb=wr.heap.size:=⟨_,rfl⟩;rw[<- htb];have K1:=alloc_at' wr (.cells (Ru t).toArray 42) htb;have X1:Zg wr (wr.alloc (.cells (Ru t).toArray 42)):=(Fl wr).alloc _;have HX5:=Hd X1;have HK1:=Hd K1;clear X1 K1 htb q0 q1 q2 q3 q4 q5 q6 ll lm;generalize World.alloc wr _=w6 at *;have tc:=cell_of HK1.out 2 (.int .i64 (t.cls:Int)) rfl;have ltb:=lt_of_cell tc;have hc4:t.cls=0\/t.cls=1\/t.cls=3\/t.cls=2:=by have:=HTI.out.cls;omega
      rcases hc4 with hc|hc|hc|hc
      iterate 3
       focus
        rw[hc]at tc;clear hc;go_wp2_with fail
        go_roundg (n-(i+1))
        case measure=>omega
        case rel=>exact⟨i+1,by go_num,Om,Om,HR.out.then HX5.out⟩
      obtain⟨q,hq,hqu⟩:=HTI.out.unk hc;have HWX:=Hd (HR.out.then HX5.out);obtain⟨ub,uo,vq,hAW,_,_,uy,_,_,_,_,u4⟩:=Zeu (Yc HRW.out HWX.out) q hqu;have hro:uOf d t=(Zf d)[q]:=by unfold uOf;rw[hq,Int.toNat_natCast,List.getD_eq_getElem?_getD,Ge hqu];rfl
      have hbu:=HDO.out.unk1 _ ((sortL_perm Rb d.unknown).mem_iff.1 (List.getElem_mem hqu));have hql:q<d.unknown.length:=by rw[<- Xu];exact hqu
      generalize (Zf d)[q]=r at *;obtain⟨AV,cV,rfl⟩:=Yf uy;obtain⟨hF,hP⟩:=HSR.out;obtain⟨⟨m0,m1⟩,_⟩:=HMM.out;have e1:(Mb d us t).feats=r.contents:=by show Z8 d us t=_;unfold Z8;rw[if_neg Om,if_pos hc,hro]
      have e2:(Mb d us t).pos=Tx (Zi d.unkMeta) r.contents:=by show Vz d us t=_;unfold Vz;rw[if_neg Om,if_pos hc,hro]
      rw[e1]at hF;rw[e2,HPU.out]at hP;rw[hc]at tc;generalize r.contents=rc at *;obtain⟨pv,hpv⟩:∃ pv,pv=(if en<=st\/(rc.length:Int)<en then [] else (rc.take en.toNat).drop st.toNat):=⟨_,rfl⟩;rw[<- hpv]at hP;have HPV:=Hd hpv;clear hpv;obtain⟨AF,cF,rfl⟩:=Yf hF;obtain⟨AP,cP,rfl⟩:=Yf hP;have tc1:=cell_of HK1.out 1 (.int .i64 t.id) rfl;rw[hq]at tc1;have hq0:(0:Int)<=(q:Int):=Om;have hqi:(q:Int)<(d.unknown.length:Int):=Om;have hqd:¬ (q:Int)<0:=Om;have hqe:¬ (d.unknown.length:Int)<=(q:Int):=Om;have hqf:¬ d.unknown.length<=q:=Om;have m0:=HX5.out.cell m0 id;have m1:=HX5.out.cell m1 id;have HSS:=Hd (Ai1 (Ai1 (strs.ext hF HX5.out) (strs.ext hP HX5.out)) uy);have lu:=lt_of_cell u4;have lb:=lt_of_cell m0;clear hc e1 e2 hro uy hF hP HSR HMM hq hqu hql;subst hAW;go_upto_region 22 with fail
      go_cut [20] from 20 to 20 (λv20 wx=>v20=.slice none 0 0/\w6=wx)
      case first =>
       go_wp2_with fail
       go_meet
       case rel=>exact⟨rfl,rfl⟩
      case rest =>
      obtain⟨rfl,e4⟩:=hcut;subst e4;go_step;refine wp_seq_k λK2 hK2=>?_
      go_cut [20] from 117 to 129 (λv20 wx=>∃ A' n' c',v20=.slice A' n' c'/\Hid (strs.R w6 (λ_=>True) pv [.slice A' n' c'])/\w6=wx)
      case first =>
       obtain⟨p,hp⟩:∃ p:Nat,st=p:=⟨st.toNat,by have:=HSB.out;omega⟩;obtain⟨e,he⟩:∃ e:Nat,en=e:=⟨en.toNat,by have:=HSB.out;omega⟩;have hcap:rc.length<=cV:=by obtain⟨_,_,q,h,_⟩:=HSS.out.2;cases q;exact h
       subst hp he;by_cases h1:p<=e/\e<=rc.length
       ·by_cases hpc:cV=p
        ·obtain rfl:e=p:=Om
         subst hpc
         have HE:Hid (pv=[]):=by
          show _=_;rw[HPV.out,if_pos (.inl (Int.le_refl _))]
         have HS:Hid (strs.R w6 (λ_=>True) pv [.slice AV 0 0]):=by
          show strs.R _ _ _ _;rw[HE.out];exact⟨AV,0,rfl,Nl _,λ_=>rfl,by simp,.inl rfl⟩
         have y2:(cV:Int)<=(rc.length:Int):=Om;have y4:(0:Int)<=(cV:Int):=Om;clear h1;go_wp2_with fail
         go_meet
         case rel=>exact⟨_,_,_,rfl,HS,rfl⟩
        have y1:(p:Int)<=(e:Int):=Om;have y2:(e:Int)<=(rc.length:Int):=Om;have y3:(e:Int)<=(cV:Int):=Om;have y4:(0:Int)<=(p:Int):=Om
        have HE:Hid (pv=(rc.take e).drop p):=by
         show _=_;rw[HPV.out]
         split
         ·rw[List.drop_eq_nil_of_le];rw[List.length_take];omega
         ·rfl
        have HS:Hid (strs.R w6 (λ_=>True) pv [.slice (AV.map (λx=>x.add p)) (e-p) (cV-p)]):=by
         show strs.R _ _ _ _;rw[HE.out];exact Ze0 HSS.out.2 h1.1 h1.2
        clear h1;go_wp2_with fail
        go_meet
        case rel=>exact⟨_,_,_,rfl,HS,rfl⟩
       ·have HE:Hid (pv=[]):=by
         show _=_;rw[HPV.out,if_pos Om]
        have HS:Hid (strs.R w6 (λ_=>True) pv [.slice none 0 0]):=by
         show strs.R _ _ _ _;rw[HE.out];exact Nw
        by_cases h2:p<=e
        ·have y1:(p:Int)<=(e:Int):=Om;have y2:¬ (e:Int)<=(rc.length:Int):=Om;clear h1 h2;go_wp2_with fail
         go_meet
         case rel=>exact⟨_,_,_,rfl,HS,rfl⟩
        ·have y1:¬ (p:Int)<=(e:Int):=Om;clear h1 h2;go_wp2_with fail
         go_meet
         case rel=>exact⟨_,_,_,rfl,HS,rfl⟩
      case rest =>
      obtain⟨Ac,nc,cc,rfl,HCC,e4⟩:=hcut;subst e4;go_step
      go_wp2_with (first
       | (go_at_call 15;refine (V2 HSS.out.1.2 HCC.out).mono ?_;rintro e wa ⟨rfl,hxa⟩;clear HCC;have m0:=hxa.cell m0 id;have HXA:=Hd hxa;clear hxa)
       | (go_at_call 15;refine (V2 (strs.ext HSS.out.1.1 HXA.out) (strs.ext HSS.out.2 HXA.out)).mono ?_;rintro e wb ⟨rfl,hxb⟩;have HXB:=Hd hxb;clear hxb)
       | fail)
      go_roundg (n-(i+1))
      case measure=>omega
      case rel=>exact⟨i+1,by go_num,Om,Om,((HR.out.then HX5.out).then HXA.out).then HXB.out⟩
     ·obtain rfl:i=n:=Om
      have HX9:=Hd (((HX1.out.then HY4.out).then HZ5.out).then HR.out)
      go_wp2_with (first
       | (go_at_call 11;refine (Y9 _ (H.out.2.ext HX9.out).u8).mono ?_;rintro e w9 ⟨rfl,hx⟩;have HYY:=Hd hx;clear hx)
       | fail)
      go_ret;exact⟨rfl,HX9.out.then HYY.out⟩
  ·go_enter Tryz.func6,Tryz.ntmps6
   go_wp2_with (first
    | (go_at_call 9;refine (CF.out _ ((Fl w).alloc _)).mono ?_;rintro e w1 ⟨rfl,hx⟩;have HX:=Hd hx;clear hx)
    | fail)
   go_ret;exact⟨rfl,((Fl w).alloc _).then HX.out⟩
end Go.Proofs.YtoliamijgmifkaaGreatDoor
