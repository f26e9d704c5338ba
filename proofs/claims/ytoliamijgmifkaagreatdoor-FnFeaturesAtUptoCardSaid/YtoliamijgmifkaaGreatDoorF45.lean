/- The methods of tokens: FeatureAt of unknown words, of a user's words, of no class. · The methods of  -/
import Derived.Test.YtoliamijgmifkaaGreatDoorF44
set_option linter.all false
set_option maxRecDepth 100000
set_option maxHeartbeats 2000000
namespace Go.Proofs.YtoliamijgmifkaaGreatDoor
section
open Go.RowKit DT SS TR LT
theorem Zgs(t:Yn)(hc:t.cls=0)(kd:Nat)(pu:Option Addr)(k:Int)(w:World):Calls Tryz.prog 51 #[.agg (Z9 kd pu t).toArray,.int .i64 k] w fun e w'=>e = .returned (Ye none)/\Ext w w':=by
 by_cases hk:k<0
 ·exact Zb2 t kd pu k hk w
 obtain⟨idx,id,cls,pos,st,fi,sf⟩:=t;simp only at hc;subst hc;go_enter Tryz.func51,Tryz.ntmps51
 go_wp2_with fail
 first|go_ret|go_ret2
 exact⟨rfl,(Fr.refl _ _).alloc _⟩
theorem Ziz(d:Zf)(us:List GRec)(t:Yn)(i:Nat)(hid:t.id=i)(hc:t.cls=2)(hi:i<(Ze d).length)(kd H U:Nat)(pu:Option Addr)(n:Nat)(w:World)(hD:Wm d us kd pu H U w) :
  Calls Tryz.prog 51 #[.agg (Z9 kd pu t).toArray,.int .i64 (n:Int)] w fun e w'=>e = .returned (Ye ((Ze d)[i].contents[n]?))/\Ext w w':=by
 have mixed:Tryz.prog.follows .mixedOrders=true:=by kernel_rfl
 obtain⟨nw,C,cC,R,cR,hiw,K0,hC,hcl⟩:=Bp hD t i hid hc hi;generalize (Ze d)[i]=x at *;clear hD hi;obtain⟨idx,id,cls,pos,st,fi,sf⟩:=t;simp only at hid hc;subst hid hc;obtain⟨rb,hrb⟩:∃ rb,rb=w.heap.size:=⟨_,rfl⟩;have X0:Ext w (w.alloc (Zn kd pu ⟨idx,i,2,pos,st,fi,sf⟩)):=(Fr.refl _ _).alloc _;rw[<- hrb]at K0;have hn0:¬ (n:Int)<0:=by omega
 go_enter Tryz.func51,Tryz.ntmps51
 go_upto_region 1 with fail
 have HC:=Lib.hid (strs.ext hC X0);have HX:=Lib.hid X0;rw[<- hrb];clear hC hrb X0;generalize w.alloc _=W at *;obtain⟨c1,c2,b1,b2,b7,lb,lk⟩:=id K0;have HF:Hid (∀ W',Ext W W'->UnF x i kd rb nw C cC cR R W'):=fun W' f=>K0.ext f
 clear K0;have hiz:(i:Int)<(nw:Int):=by omega
 have hi0:(0:Int)<=(i:Int):=by omega
 have hin:¬ (nw:Int)<=(i:Int):=by omega
 go_upto_region 19 with fail
 go_quiet (fail)
 have F1:Ext W (W.drewN nq):=(Fr.refl _ W).drewN nq;clear c1 c2 b1 b2 b7 lb lk;obtain⟨c1,c2,b1,b2,b7,lb,lk⟩:=HF.out _ F1;have H1:=Lib.hid (And.intro (Z0 HX.out F1) (strs.ext HC.out F1));clear F1 HX HC HF;generalize W.drewN nq=W1 at *;go_upto_region 21 with fail
 go_quiet (fail)
 have F1:Ext W1 (W1.drewN nq):=(Fr.refl _ W1).drewN nq;have H2:=Lib.hid (And.intro (Z0 H1.out.1 F1) (strs.ext H1.out.2 F1));clear F1 H1 c1 c2 b1 b2 b7 lb lk;generalize W1.drewN nq=W2 at *;by_cases hm:n<x.contents.length
 ·obtain⟨b,o,e,_,hcc⟩:=X7 H2.out.2 (fun e=>by rw[e]at hm;simp at hm);subst e;have hq:=hcc n (.string x.contents[n]) (by rw[List.getElem?_map,List.getElem?_eq_getElem hm];rfl);rw[Addr.add_lit]at hq;have hmz:¬ (x.contents.length:Int)<=(n:Int):=by omega
  have hmz2:(n:Int)<(x.contents.length:Int):=by omega
  have hm0:(0:Int)<=(n:Int):=by omega
  have HE2:Hid (x.contents[n]? = some x.contents[n]):=List.getElem?_eq_getElem hm;clear hcc;go_wp2_with fail
  first|go_ret|go_ret2
  exact⟨rfl,H2.out.1⟩
 ·have hmz:(x.contents.length:Int)<=(n:Int):=by omega
  have HE2:Hid (x.contents[n]? = none):=List.getElem?_eq_none (by omega);go_wp2_with fail
  first|go_ret|go_ret2
  exact⟨rfl,H2.out.1⟩
theorem Zgr(d:Zf)(us:List GRec)(t:Yn)(i:Nat)(hid:t.id=i)(hc:t.cls=3)(hi:i<us.length)(kd H U:Nat)(pu:Option Addr)(m:Nat)(w:World)(hD:Wm d us kd pu H U w) :
  Calls Tryz.prog 51 #[.agg (Z9 kd pu t).toArray,.int .i64 (m:Int)] w fun e w'=>e = .returned (Ye ([us[i].pos,Qr us[i].tokens,Qr us[i].yomi][m]?))/\Ext w w':=by
 have mixed:Tryz.prog.follows .mixedOrders=true:=by kernel_rfl
 obtain⟨ku,n,C,oC,cC,ca,cb,A,B,rfl,hin,K0,hA,hB,hfew,hps⟩:=Hl hD t i hid hc hi;generalize us[i]=x at *;clear hD hi;obtain⟨idx,id,cls,pos,st,fi,sf⟩:=t;simp only at hid hc;subst hid hc;obtain⟨rb,hrb⟩:∃ rb,rb=w.heap.size:=⟨_,rfl⟩;have X0:Ext w (w.alloc (Zn kd (some ⟨ku,0,none⟩) ⟨idx,i,3,pos,st,fi,sf⟩)):=(Fr.refl _ _).alloc _;rw[<- hrb]at K0;have hn0:¬ (m:Int)<0:=by omega
 go_enter Tryz.func51,Tryz.ntmps51
 go_upto_region 1 with fail
 have HAB:=Lib.hid (And.intro (strs.ext hA X0) (strs.ext hB X0));have HX:=Lib.hid X0;rw[<- hrb];clear hA hB hrb X0;generalize w.alloc _=W at *;obtain⟨c1,c2,c3,c4,b1,b2,b8,lb,lk⟩:=id K0;have HF:Hid (∀ W',Ext W W'->UsF x i ku rb n C oC cC ca cb A B W'):=fun W' f=>K0.ext f
 clear K0;have HFW:=Lib.hid hfew;clear hfew;have hiz:(i:Int)<(n:Int):=by omega
 have hi0:(0:Int)<=(i:Int):=by omega
 have hin:¬ (n:Int)<=(i:Int):=by omega
 go_upto_region 26 with fail
 go_quiet (fail)
 have F1:Ext W (W.drewN nq):=(Fr.refl _ W).drewN nq;clear c1 c2 c3 c4 b1 b2 b8 lb lk;obtain⟨c1,c2,c3,c4,b1,b2,b8,lb,lk⟩:=HF.out _ F1;have H1:=Lib.hid (And.intro (Z0 HX.out F1) (And.intro (strs.ext HAB.out.1 F1) (strs.ext HAB.out.2 F1)));clear F1 HX HAB HF;generalize W.drewN nq=W1 at *;rcases m with _|_|_|m
 ·go_upto_region 30 with fail
  go_quiet (fail)
  go_wp2_with fail
  first|go_ret|go_ret2
  exact⟨rfl,Z0 H1.out.1 ((Fr.refl _ W1).drewN nq)⟩
 ·have CJ:=Lib.hid (Q7 x.tokens A ca W1.drew (strs.ext H1.out.2.1 (Fr.refl _ W1).drew) HFW.out.1 HFW.out.2.2.1);go_upto_region 32 with fail
  go_still_tail 10,(by kernel_rfl)
  change wpList _ _ _ _ _ W1.drew;go_wp2_with (first|(go_at_call 80;refine CJ.out.mono ?_;rintro e w6 ⟨rfl,hx5⟩;have HX6:=Lib.hid (Z0 H1.out.1 (Z0 ((Fr.refl _ W1).drew) hx5)))|fail)
  first|go_ret|go_ret2
  exact⟨rfl,HX6.out⟩
 ·have CJ:=Lib.hid (Q7 x.yomi B cb W1.drew (strs.ext H1.out.2.2 (Fr.refl _ W1).drew) (by have:=HFW.out;omega) HFW.out.2.2.2);go_upto_region 34 with fail
  go_still_tail 10,(by kernel_rfl)
  change wpList _ _ _ _ _ W1.drew;go_wp2_with (first|(go_at_call 80;refine CJ.out.mono ?_;rintro e w6 ⟨rfl,hx5⟩;have HX6:=Lib.hid (Z0 H1.out.1 (Z0 ((Fr.refl _ W1).drew) hx5)))|fail)
  first|go_ret|go_ret2
  exact⟨rfl,HX6.out⟩
 ·have e0:(((m+3:Nat):Int)==0)=false:=by rw[beq_eq_false_iff_ne];omega
  have e1:(((m+3:Nat):Int)==1)=false:=by rw[beq_eq_false_iff_ne];omega
  have e2:(((m+3:Nat):Int)==2)=false:=by rw[beq_eq_false_iff_ne];omega
  go_wp2_with fail
  first|go_ret|go_ret2
  exact⟨by simp,H1.out.1⟩
end
section
open Go.RowKit DT SS TR LT
def Xo(ms:List Xw)(s:ByteArray):Option Int:=ms.foldl (fun o m=>if m.1=s then some m.2 else o) none
theorem Rj(s:ByteArray)(ms:List Xw):look (Xi ms) s=(Xo ms s).map (Value.int .i8):=by
 suffices ∀ r:List Xw,look (Xi r.reverse) s=(Xo r.reverse s).map (Value.int .i8) by simpa using this ms.reverse
 intro r
 induction r with
 | nil=>rfl
 | cons m r ih =>
  rw[List.reverse_cons,M2,Wd];unfold Xo;rw[List.foldl_append];simp only[List.foldl_cons,List.foldl_nil]
  split
  ·rfl
  ·exact ih
theorem Ri{ms:List Xw}{s:ByteArray}{v:Int}(h:Xo ms s=some v):∃ m∈ms,m.2=v:=by
 suffices ∀ r:List Xw,Xo r.reverse s=some v->∃ m∈r,m.2=v by
  obtain⟨m,hm,e⟩:=this ms.reverse (by simpa using h);exact⟨m,by simpa using hm,e⟩
 intro r
 induction r with
 | nil=>intro h;cases h
 | cons m r ih =>
  intro h;unfold Xo at h;rw[List.reverse_cons,List.foldl_append]at h;simp only[List.foldl_cons,List.foldl_nil]at h
  split at h
  ·exact⟨m,by simp,Option.some.inj h⟩
  ·obtain⟨q,hq,e⟩:=ih h;exact⟨q,by simp[hq],e⟩
abbrev Mi:ByteArray:=⟨#[95,112,111,115,95,115,116,97,114,116]⟩
abbrev Iw:ByteArray:=⟨#[95,112,111,115,95,104,105,101,114,97,114,99,104,121]⟩
def Ln(ms:List Xw):Int:=(Xo ms Mi).getD 0
def Gq(ms:List Xw):Int:=match Xo ms Iw with|some v=>Ln ms+v|none=>1
def N8(ms:List Xw)(c:List ByteArray):List ByteArray:=if Gq ms<=Ln ms\/(c.length:Int)<Gq ms then [] else (c.take (Gq ms).toNat).drop (Ln ms).toNat
theorem Qe(w:World):(zeroValue 185).run Tryz.prog w = .ok (.int .i8 0) w:=by kernel_rfl
theorem Zid(d:Zf)(us:List GRec)(t:Yn)(i:Nat)(hid:t.id=i)(hc:t.cls=2)(hi:i<(Ze d).length)(kd H U:Nat)(pu:Option Addr)(w:World)(hD:Wm d us kd pu H U w) :
  Calls Tryz.prog 39 #[.agg (Z9 kd pu t).toArray] w fun e w'=>∃ v,e = .returned v/\strs.R w' (fun j=>w.heap.size<=j) (N8 (Zi d.unkMeta) (Ze d)[i].contents) [v]/\Ext w w':=by
 have mixed:Tryz.prog.follows .mixedOrders=true:=by kernel_rfl
 obtain⟨nw,C,cC,R,cR,hiw,K0,hC,hcl⟩:=Bp hD t i hid hc hi;obtain⟨_,mu,_,_,hm1,hm2⟩:=hD.dict.marks;have hmk:=hD.marks.2;generalize (Ze d)[i]=x at *;have l1:=Rj Mi (Zi d.unkMeta);have l2:=Rj Iw (Zi d.unkMeta);have b1:∀ v,Xo (Zi d.unkMeta) Mi=some v->0<=v/\v<=100:=fun v h=>by obtain⟨m,hm,rfl⟩:=Ri h;exact hmk m hm
 have b2:∀ v,Xo (Zi d.unkMeta) Iw=some v->0<=v/\v<=100:=fun v h=>by obtain⟨m,hm,rfl⟩:=Ri h;exact hmk m hm
 have hpu:N8 (Zi d.unkMeta) x.contents=N8 (Zi d.unkMeta) x.contents:=rfl
 conv at hpu=>rhs;unfold N8 Gq Ln
 obtain⟨res,hres⟩:∃ res,res=N8 (Zi d.unkMeta) x.contents:=⟨_,rfl⟩;rw[<- hres]at hpu⊢;have HPU:=Lib.hid hpu;clear hpu hres hD hi hmk;generalize Xi (Zi d.unkMeta)=L at *;generalize Xo (Zi d.unkMeta) Mi=a at *;generalize Xo (Zi d.unkMeta) Iw=b at *;have HB:=Lib.hid (And.intro b1 b2);have HLK:=Lib.hid (And.intro l1 l2);clear b1 b2 l1 l2;obtain⟨idx,id,cls,pos,st,fi,sf⟩:=t;simp only at hid hc;subst hid hc;obtain⟨rb,hrb⟩:∃ rb,rb=w.heap.size:=⟨_,rfl⟩;have X0:Ext w (w.alloc (Zn kd pu ⟨idx,i,2,pos,st,fi,sf⟩)):=(Fr.refl _ _).alloc _;rw[<- hrb]at K0;go_enter Tryz.func39,Tryz.ntmps39
 go_upto_region 1 with fail
 have HC:=Lib.hid (strs.ext hC X0);have HX:=Lib.hid X0;have hm1:=X0.cell hm1 id;have hm2:=hm2.keep X0 id;have HF:Hid (∀ W',Ext (w.alloc (Zn kd pu ⟨idx,i,2,pos,st,fi,sf⟩)) W'->UnF x i kd rb nw C cC cR R W'/\W'.cell? ⟨kd,17,none⟩=some (.map (some mu))/\Zx Xr mu L W'):=fun W' f=>⟨K0.ext f,f.cell hm1 id,hm2.keep f id⟩
 rw[<- hrb];clear hC hrb X0 K0 hm1 hm2;generalize w.alloc _=W at *;obtain⟨⟨c1,c2,b1,b2,b7,lb,lk⟩,hm1,hm2⟩:=HF.out W (Fr.refl _ _);have HM:=Lib.hid hm2;clear hm2;have hiz:(i:Int)<(nw:Int):=by omega
 have hi0:(0:Int)<=(i:Int):=by omega
 obtain⟨st,hst⟩:∃ st,st=a.getD 0:=⟨_,rfl⟩;obtain⟨en,hen⟩:∃ en,en=(match b with|some v=>st+v|none=>(1:Int)):=⟨_,rfl⟩;rw[<- hst,<- hen]at HPU;have HST:=Lib.hid hst;have HEN:=Lib.hid hen;clear hst hen;go_upto_region 11 with fail
 go_cut [6] from 6 to 6 (fun v6 wr=>v6 = .int .i64 0/\W=wr)
 case first =>
  go_wp2_with fail
  go_meet
  case rel=>exact⟨rfl,rfl⟩
 case rest =>
 obtain⟨rfl,e⟩:=hcut;subst e;go_step;refine wp_seq_k fun K hK=>?_
 go_cut [6] from 6 to 75 (fun v6 wr=>v6 = .int .i64 st/\W=wr)
 case first =>
  have hl:=HLK.out.1;rcases a with _|v
  ·simp only[Option.map_none]at hl
   go_wp2_with (first
    | (at_lookup;refine Zj rfl _ _ true rfl Uj Tryz.underlying156 Tryz.underlying9 (Qe _) rfl HM.out Mi rfl ?_;simp only[if_true,hl,Option.getD_none,Option.isSome_none])
    | fail)
   go_meet
   case rel=>exact⟨by rw[HST.out];rfl,rfl⟩
  ·simp only[Option.map_some]at hl;have hv:=HB.out.1 v rfl;have hw:IntKind.i64.wrap v=v:=by rw[IntKind.wrap_i64];omega
   go_wp2_with (first
    | (at_lookup;refine Zj rfl _ _ true rfl Uj Tryz.underlying156 Tryz.underlying9 (Qe _) rfl HM.out Mi rfl ?_;simp only[if_true,hl,Option.getD_some,Option.isSome_some])
    | fail)
   go_meet
   case rel=>exact⟨by rw[HST.out];rfl,rfl⟩
 case rest =>
 obtain⟨rfl,e⟩:=hcut;subst e
 have hst:0<=st/\st<=100:=by
  rw[HST.out]
  cases a with
  | none=>exact⟨by decide,by decide⟩
  | some v=>exact HB.out.1 v rfl
 have HSB:=Lib.hid hst;clear hst HST;go_step;refine wp_seq_k fun K2 hK2=>?_
 go_cut [9] from 9 to 9 (fun v9 wr=>v9 = .int .i64 1/\W=wr)
 case first =>
  go_wp2_with fail
  go_meet
  case rel=>exact⟨rfl,rfl⟩
 case rest =>
 obtain⟨rfl,e⟩:=hcut;subst e;go_step;refine wp_seq_k fun K3 hK3=>?_
 go_cut [9] from 9 to 90 (fun v9 wr=>v9 = .int .i64 en/\W=wr)
 case first =>
  have hl:=HLK.out.2;rcases b with _|v
  ·simp only[Option.map_none]at hl
   go_wp2_with (first
    | (at_lookup;refine Zj rfl _ _ true rfl Uj Tryz.underlying156 Tryz.underlying9 (Qe _) rfl HM.out Iw rfl ?_;simp only[if_true,hl,Option.getD_none,Option.isSome_none])
    | fail)
   go_meet
   case rel=>exact⟨by rw[HEN.out],rfl⟩
  ·simp only[Option.map_some]at hl;have hv:=HB.out.2 v rfl;have hw:IntKind.i64.wrap v=v:=by rw[IntKind.wrap_i64];omega
   have hsb:=HSB.out;have hw2:IntKind.i64.wrap (st+v)=st+v:=by rw[IntKind.wrap_i64];omega
   clear hsb
   go_wp2_with (first
    | (at_lookup;refine Zj rfl _ _ true rfl Uj Tryz.underlying156 Tryz.underlying9 (Qe _) rfl HM.out Iw rfl ?_;simp only[if_true,hl,Option.getD_some,Option.isSome_some])
    | fail)
   go_meet
   case rel=>exact⟨by rw[HEN.out],rfl⟩
 case rest =>
 obtain⟨rfl,e⟩:=hcut;subst e
 have hen:0<=en/\en<=200:=by
  have:=HSB.out;rw[HEN.out]
  cases b with
  | none=>exact⟨by show (0:Int)<=1;decide,by show (1:Int)<=200;decide⟩
  | some v=>have:=HB.out.2 v rfl;exact⟨by show 0<=st+v;omega,by show st+v<=200;omega⟩
 clear HEN HB HLK HM;go_step;go_upto_region 19 with fail
 go_quiet (fail)
 have F1:Ext W (W.drewN nq):=(Fr.refl _ W).drewN nq;have H1:=Lib.hid (And.intro (Z0 HX.out F1) (strs.ext HC.out F1));clear F1 HX HC HF c1 c2 b1 b2 b7 lb lk hm1;generalize W.drewN nq=W1 at *;obtain⟨p,rfl⟩:∃ p:Nat,st=p:=⟨st.toNat,by have:=HSB.out;omega⟩;obtain⟨q,rfl⟩:∃ q:Nat,en=q:=⟨en.toNat,by omega⟩;by_cases h1:q<=p
 ·have hz:(q:Int)<=(p:Int):=by omega
  have HR:Hid (res=[]):=by show _=_;rw[HPU.out,if_pos (.inl hz)]
  go_wp2_with fail
  first|go_ret|go_ret2
  rw[HR.out];exact⟨_,rfl,⟨none,0,rfl,Nat.le_refl _,fun _=>rfl,by simp,.inl rfl⟩,H1.out.1⟩
 by_cases h2:x.contents.length<q
 ·have hz:¬ (q:Int)<=(p:Int):=by omega
  have hz2:(x.contents.length:Int)<(q:Int):=by omega
  have HR:Hid (res=[]):=by show _=_;rw[HPU.out,if_pos (.inr hz2)]
  go_wp2_with fail
  first|go_ret|go_ret2
  rw[HR.out];exact⟨_,rfl,⟨none,0,rfl,Nat.le_refl _,fun _=>rfl,by simp,.inl rfl⟩,H1.out.1⟩
 have hz:¬ (q:Int)<=(p:Int):=by omega
 have hz2:¬ (x.contents.length:Int)<(q:Int):=by omega
 have HR:Hid (res=(x.contents.take q).drop p):=by show _=_;rw[HPU.out,if_neg (by omega)];rfl
 have hw:IntKind.i64.wrap ((q:Int)-(p:Int))=((q-p:Nat):Int):=by rw[IntKind.wrap_i64];omega
 obtain⟨m,hm⟩:∃ m,m=q-p:=⟨_,rfl⟩;rw[<- hm]at hw;have HMQ:=Lib.hid hm;clear hm;have hm6:m<=200:=by have:=HMQ.out;omega
 have hmk:∀ W:World,(Instr.makeSlice 43 (.int .i64 0) (.int .i64 (m:Int))).run Tryz.prog W = .ok (.slice (some ⟨W.heap.size,0,none⟩) 0 m) (W.alloc (.cells (madeCells #[.string ⟨#[]⟩] m) 9)):=fun W=>Me 0 m (by omega) (by omega) W
 go_wp2_with fail
 obtain⟨N,hN⟩:∃ N,N=W1.heap.size:=⟨_,rfl⟩;rw[<- hN];have F2:Ext W1 (W1.alloc (.cells (madeCells #[.string ⟨#[]⟩] m) 9)):=(Fr.refl _ W1).alloc _;have K2:(W1.alloc (.cells (madeCells #[.string ⟨#[]⟩] m) 9)).heap[N]? = some (.cells (madeCells #[.string ⟨#[]⟩] m) 9 (0,0)):=alloc_at' _ _ hN;have hNw:w.heap.size<=N:=by rw[hN];exact H1.out.1.size
 have hNW:W1.heap.size<=N:=by omega
 have HF3:=Lib.hid (And.intro F2 K2);clear hN hmk F2 K2;generalize W1.alloc _=W2 at *
 go_loopg [13,14] q (fun g1 v13 v14 wr=>∃ (j:Nat) (u:Value),v13=u/\v14 = .int .i64 (j:Int)/\(p<=j/\j<=q)/\q<=j+g1/\Hid (RowK Ty.str 9 u ((x.contents.take j).drop p) N wr/\Ext W1 wr)/\N<=wr.heap.size)
 case atStart=>exact⟨p,_,rfl,rfl,by omega,by omega,⟨by rw[List.drop_eq_nil_of_le (by simp;omega)];exact Zbq rfl HF3.out.2 (by rw[Q5]) (by omega) (Nat.le_refl _),HF3.out.1⟩,Nat.le_of_lt (Array.getElem?_eq_some_iff.1 HF3.out.2).1⟩
 case round =>
  obtain⟨j,u,rfl,rfl,hj,hg,HR2,hNr⟩:=hrel;have HL:=Lib.hid HR2.out.1.low;by_cases hlt:j<q
  ·have hlz:(j:Int)<(q:Int):=by omega
   have hjx:j<x.contents.length:=by omega
   obtain⟨bb,o,e,_,hcc⟩:=X7 H1.out.2 (fun e=>by rw[e]at hjx;simp at hjx);subst e;have hq:=hcc j (.string x.contents[j]) (by rw[List.getElem?_map,List.getElem?_eq_getElem hjx];rfl);rw[Addr.add_lit]at hq;have hq:=HR2.out.2.cell hq id;have hjz:(j:Int)<(x.contents.length:Int):=by omega
   have hz0:(0:Int)<=(j:Int):=by omega
   have HT:Hid ((x.contents.take (j+1)).drop p=(x.contents.take j).drop p++[x.contents[j]]):=by
    show _=_;rw[List.take_succ_eq_append_getElem hjx,List.drop_append_of_le_length (by simp;omega)]
   have hsz:=Uw H1.out.2 _ (List.getElem_mem hjx);generalize x.contents[j]=s at *;clear hcc
   go_wp2_with (first
    | (at_builtin;refine RowK.lst (v:=u13) rfl _ _ 43 rfl s [.string s] 16 ⟨wr.heap.size,0,none⟩ Tryz.underlying43 O7 (by decide) (by omega) rfl rfl (HR2.out.1.ext ((Fr.refl _ wr).alloc _)) (by rw[List.length_drop,List.length_take];omega) (by simp;omega) (Z4 _ _) ⟨rfl,by omega⟩ ?_;intro v' w6 hR6 hf6 ha6;have H6:=Lib.hid (And.intro hR6 hf6);clear hR6 hf6 ha6)
    | fail)
   go_roundg (q-(j+1))
   case measure=>omega
   case rel=>exact⟨j+1,v',rfl,by go_num,by omega,by omega,⟨by rw[HT.out];exact H6.out.1,(HR2.out.2.alloc _).trans H6.out.2 (fun k hk e=>by have:=(HL.out k e).1;omega)⟩,by have:=H6.out.2.size;rw[Za]at this;omega⟩
  ·have ej:j=q:=by omega
   have hown:=HR2.out.1.texts;rw[ej,<- HR.out]at hown;have HSR:=HR.out;have HO:=Lib.hid (strs.mono (O':=fun k=>w.heap.size<=k) (fun k _ q=>by omega) (Vh hown (fun s hs=>by rw[HSR]at hs;exact Uw H1.out.2 s (List.mem_of_mem_take (List.mem_of_mem_drop hs)))));have HX2:=Lib.hid (Z0 H1.out.1 HR2.out.2);have hjz:¬ (j:Int)<(q:Int):=by omega
   have hre:((x.contents.take j).drop p).length=res.length:=by rw[HSR,ej]
   clear hown HR2 HSR;go_wp2_with fail
   first|go_ret|go_ret2
   exact⟨_,rfl,HO.out,HX2.out⟩
end
section
open Go.RowKit DT SS TR LT
theorem Zdc(d:Zf)(us:List GRec)(t:Yn)(i:Nat)(hid:t.id=i)(hc:t.cls=1)(hi:i<(Zr d).length)(kd H U:Nat)(pu:Option Addr)(w:World)(hD:Wm d us kd pu H U w) :
  Calls Tryz.prog 39 #[.agg (Z9 kd pu t).toArray] w fun e w'=>∃ v,e = .returned v/\strs.R w' (fun j=>w.heap.size<=j) (Zr d)[i].pos [v]/\Ext w w':=by
 have mixed:Tryz.prog.follows .mixedOrders=true:=by kernel_rfl
 obtain⟨nw,nl,P,cP,Q,cQ,gl,C,cC,R,cR,hiw,K0,hP,hC,hfew,_⟩:=Zae hD t i hid hc hi;generalize (Zr d)[i]=x at *;clear hD hi;obtain⟨idx,id,cls,pos,st,fi,sf⟩:=t;simp only at hid hc;subst hid hc;obtain⟨rb,hrb⟩:∃ rb,rb=w.heap.size:=⟨_,rfl⟩;have X0:Ext w (w.alloc (Zn kd pu ⟨idx,i,1,pos,st,fi,sf⟩)):=(Fr.refl _ _).alloc _;rw[<- hrb]at K0;go_enter Tryz.func39,Tryz.ntmps39
 go_upto_region 1 with fail
 have HP:=Lib.hid hP;have HC:=Lib.hid hC;have HX:=Lib.hid X0;rw[<- hrb];have HRB:=Lib.hid hrb;clear hP hC hrb X0;generalize w.alloc _=W at *;obtain⟨p1,p2,p3,c1,c2,b1,b2,b7,lb,lk⟩:=id K0;have HF:Hid (∀ W',Ext W W'->KnF x i kd rb nw nl P cP cQ gl C cC cR Q R W'):=fun W' f=>K0.ext f
 clear K0;have hiz:(i:Int)<(nw:Int):=by omega
 have hi0:(0:Int)<=(i:Int):=by omega
 have hmk:∀ W:World,(Instr.makeSlice 43 (.int .i64 0) (.int .i64 (x.pos.length:Int))).run Tryz.prog W = .ok (.slice (some ⟨W.heap.size,0,none⟩) 0 x.pos.length) (W.alloc (.cells (madeCells #[.string ⟨#[]⟩] x.pos.length) 9)):=fun W=>Me 0 x.pos.length (by omega) (by omega) W
 go_upto_region 3 with fail
 go_still_tail 11,(by kernel_rfl)
 change wpList _ _ _ _ _ W.drew;go_wp2_with fail
 obtain⟨N,hN⟩:∃ N,N=W.heap.size:=⟨_,rfl⟩;rw[<- hN];have F2:Ext W (W.alloc (.cells (madeCells #[.string ⟨#[]⟩] x.pos.length) 9)).drew:=((Fr.refl _ W).alloc _).drew;have K2:(W.alloc (.cells (madeCells #[.string ⟨#[]⟩] x.pos.length) 9)).drew.heap[N]? = some (.cells (madeCells #[.string ⟨#[]⟩] x.pos.length) 9 (0,0)):=alloc_at' _ _ hN;have hNw:w.heap.size<=N:=by rw[hN];exact HX.out.size
 have hNW:W.heap.size<=N:=by omega
 clear hN hmk p1 p2 p3 c1 c2 b1 b2 b7 lb lk;obtain⟨p1,p2,p3,c1,c2,b1,b2,b7,lb,lk⟩:=HF.out _ F2;generalize (W.alloc _).drew=W2 at *;go_quiet (fail)
 have F3:Ext W (W2.drewN nq):=F2.drewN nq;have K3:(W2.drewN nq).heap[N]? = some (.cells (madeCells #[.string ⟨#[]⟩] x.pos.length) 9 (0,0)):=K2;have HF3:=Lib.hid (And.intro F3 K3);clear F2 K2 F3 K3 p1 p2 p3 c1 c2 b1 b2 b7 lb lk;generalize W2.drewN nq=W3 at *;obtain⟨np,hnp⟩:∃ n,n=x.pos.length:=⟨_,rfl⟩;have HNP:=Lib.hid hnp;rw[<- hnp];clear hnp;go_wp2_with fail
 have hnp:np<=50:=by rw[HNP.out];exact hfew.1
 have HSZ:=Lib.hid hfew.2.2;clear hfew
 go_loopg [3,43] np (fun g1 v3 v43 wr=>∃ (j:Nat) (u:Value),v3=u/\v43 = .int .i64 (j:Int)/\j<=np/\np<=j+g1/\Hid (RowK Ty.str 9 u (x.pos.take j) N wr/\Ext W wr)/\N<=wr.heap.size)
 case atStart=>exact⟨0,_,rfl,rfl,by omega,by omega,⟨Zbq rfl HF3.out.2 (by rw[Q5];exact HNP.out.symm) (by omega) (Nat.le_refl _),HF3.out.1⟩,Nat.le_of_lt (Array.getElem?_eq_some_iff.1 HF3.out.2).1⟩
 case round =>
  obtain⟨j,u,rfl,rfl,hj,hg,HR,hNr⟩:=hrel;have HL:=Lib.hid HR.out.1.low;obtain⟨p1,p2,p3,c1,c2,b1,b2,b7,lb,lk⟩:=HF.out _ HR.out.2;by_cases hlt:j<np
  ·have hlz:(j:Int)<(np:Int):=by omega
   have hz0:(0:Int)<=(j:Int):=by omega
   obtain⟨b,o,k,rfl,hq,hk,hn⟩:=HP.out j (by rw[<- HNP.out];exact hlt);have XW:=HX.out.trans HR.out.2 (fun _ _ e=>e);have hq:=XW.cell hq id;have hn:=XW.cell hn id;have hk1:(0:Int)<=(k:Int)+1:=by omega
   have hk2:(k:Int)+1<(nl:Int)+1:=by omega
   have hk3:((k:Int)+1).toNat=k+1:=by omega
   have HT:Hid (x.pos.take (j+1)=x.pos.take j++[x.pos[j]'(by rw[<- HNP.out];exact hlt)]):=List.take_succ_eq_append_getElem (by rw[<- HNP.out];exact hlt);have HLQ:=Lib.hid XW.size;have hsz:=HSZ.out _ (List.getElem_mem (show j<x.pos.length by rw[<- HNP.out];exact hlt));generalize x.pos[j]'(by rw[<- HNP.out];exact hlt)=s at *;clear XW
   go_wp2_with (first
    | (at_builtin;refine RowK.lst (v:=u3) rfl _ _ 43 rfl s [.string s] 16 ⟨wr.heap.size,0,none⟩ Tryz.underlying43 O7 (by decide) (by omega) rfl rfl (HR.out.1.ext ((Fr.refl _ wr).alloc _)) (by rw[List.length_take];omega) (by simp;omega) (Z4 _ _) ⟨rfl,by omega⟩ ?_;intro v' w6 hR6 hf6 ha6;have H6:=Lib.hid (And.intro hR6 hf6);clear hR6 hf6 ha6)
    | fail)
   go_roundg (np-(j+1))
   case measure=>omega
   case rel=>exact⟨j+1,v',rfl,by go_num,by omega,by omega,⟨by rw[HT.out];exact H6.out.1,(HR.out.2.alloc _).trans H6.out.2 (fun k hk e=>by have:=(HL.out k e).1;omega)⟩,by have:=H6.out.2.size;rw[Za]at this;omega⟩
  ·obtain rfl:j=np:=by omega
   have hown:=HR.out.1.texts;have hjl:j=x.pos.length:=HNP.out;rw[hjl,List.take_length]at hown;have HO:=Lib.hid (strs.mono (O':=fun k=>w.heap.size<=k) (fun k _ q=>by omega) (Vh hown (fun s hs=>by have:=HSZ.out s hs;omega)));have HR2:=Lib.hid HR.out.2;clear hown HR HNP;go_wp2_with fail
   first|go_ret|go_ret2
   exact⟨_,rfl,HO.out,HX.out.trans HR2.out (fun _ _ e=>e)⟩
end
section
open Go.RowKit DT SS TR LT
def Pv(d:Zf)(us:List GRec)(t:Yn):List ByteArray :=
 if t.cls=1 then (wOf d t).pos else if t.cls=2 then N8 (Zi d.unkMeta) (uOf d t).contents else if t.cls=3 then [(rOf us t).pos] else []
def Yv(d:Zf)(us:List GRec)(t:Yn)(key:ByteArray):Option ByteArray :=
 if t.cls=1 then (Xo (Zi d.meta0) key).bind (Xt (Z5 d us t)) else if t.cls=2 then (Xo (Zi d.unkMeta) key).bind (Xt (Z5 d us t)) else none
theorem Vs.cases{d:Zf}{us:List GRec}{t:Yn}(h:Vs d us t):t.cls=0\/(∃ i:Nat,t.cls=1/\t.id=i/\∃ hi:i<(Zr d).length,wOf d t=(Zr d)[i])\/(∃ i:Nat,t.cls=2/\t.id=i/\∃ hi:i<(Ze d).length,uOf d t=(Ze d)[i])\/∃ i:Nat,t.cls=3/\t.id=i/\∃ hi:i<us.length,rOf us t=us[i]:=by
 have h0:=h.cls;rcases Nat.lt_or_ge t.cls 1 with a|a
 ·left;omega
 rcases Nat.lt_or_ge t.cls 2 with b|b
 ·have e:t.cls=1:=by omega
  obtain⟨i,h1,h2⟩:=h.known e;refine .inr (.inl ⟨i,e,h1,h2,?_⟩);unfold wOf;rw[h1,Int.toNat_natCast,List.getD_eq_getElem?_getD,List.getElem?_eq_getElem h2];rfl
 rcases Nat.lt_or_ge t.cls 3 with c|c
 ·have e:t.cls=2:=by omega
  obtain⟨i,h1,h2⟩:=h.unk e;refine .inr (.inr (.inl ⟨i,e,h1,h2,?_⟩));unfold uOf;rw[h1,Int.toNat_natCast,List.getD_eq_getElem?_getD,List.getElem?_eq_getElem h2];rfl
 ·have e:t.cls=3:=by omega
  obtain⟨i,h1,h2⟩:=h.user e;refine .inr (.inr (.inr ⟨i,e,h1,h2,?_⟩));unfold rOf;rw[h1,Int.toNat_natCast,List.getD_eq_getElem?_getD,List.getElem?_eq_getElem h2];rfl
section
variable{d:Zf}{us:List GRec}{t:Yn}{kd H U:Nat}{pu:Option Addr}{w:World}
theorem Of{w:World}{O:Nat->Prop}:strs.R w O [] [.slice none 0 0]:=⟨none,0,rfl,Nat.le_refl _,fun _=>rfl,by simp,.inl rfl⟩
theorem Cl(ht:Vs d us t)(hD:Wm d us kd pu H U w) :
  Calls Tryz.prog 38 #[.agg (Z9 kd pu t).toArray] w fun e w'=>∃ v,e = .returned v/\strs.R w' (fun j=>w.heap.size<=j) (Z5 d us t) [v]/\Ext w w':=by
 rcases ht.cases with e|⟨i,e,h1,h2,h3⟩|⟨i,e,h1,h2,h3⟩|⟨i,e,h1,h2,h3⟩
 ·refine (Zdw t e kd pu w).mono fun e' w' h=>⟨_,h.1,?_,h.2⟩
  unfold Z5;rw[e];exact Of
 ·have:=Zan d us t i h1 e h2 kd H U pu w hD;unfold Z5;rw[e,h3];exact this
 ·have:=Zgq d us t i h1 e h2 kd H U pu w hD;unfold Z5;rw[e,h3];exact this
 ·have:=Zdv d us t i h1 e h2 kd H U pu w hD;unfold Z5;rw[e,h3];exact this
theorem Zbk(ht:Vs d us t)(hD:Wm d us kd pu H U w) :
  Calls Tryz.prog 39 #[.agg (Z9 kd pu t).toArray] w fun e w'=>∃ v,e = .returned v/\strs.R w' (fun j=>w.heap.size<=j) (Pv d us t) [v]/\Ext w w':=by
 rcases ht.cases with e|⟨i,e,h1,h2,h3⟩|⟨i,e,h1,h2,h3⟩|⟨i,e,h1,h2,h3⟩
 ·refine (Zfn t e kd pu w).mono fun e' w' h=>⟨_,h.1,?_,h.2⟩
  unfold Pv;rw[e];exact Of
 ·have:=Zdc d us t i h1 e h2 kd H U pu w hD;unfold Pv;rw[e,h3];exact this
 ·have:=Zid d us t i h1 e h2 kd H U pu w hD;unfold Pv;rw[e,h3];exact this
 ·have:=Zfm d us t i h1 e h2 kd H U pu w hD;unfold Pv;rw[e,h3];exact this
theorem G8(ht:Vs d us t)(k:Int)(hk:k<=9223372036854775807)(hD:Wm d us kd pu H U w) :
  Calls Tryz.prog 51 #[.agg (Z9 kd pu t).toArray,.int .i64 k] w fun e w'=>e = .returned (Ye (Xt (Z5 d us t) k))/\Ext w w':=by
 by_cases hn:k<0
 ·have e:Xt (Z5 d us t) k=none:=if_pos hn;rw[e];exact Zb2 t kd pu k hn w
 obtain⟨n,rfl⟩:∃ n:Nat,k=n:=⟨k.toNat,by omega⟩;have e0:∀ l:List ByteArray,Xt l n=l[n]?:=fun l=>if_neg hn
 rw[e0];rcases ht.cases with e|⟨i,e,h1,h2,h3⟩|⟨i,e,h1,h2,h3⟩|⟨i,e,h1,h2,h3⟩
 ·have:=Zgs t e kd pu n w;unfold Z5;rw[e];exact this
 ·have:=Zdx d us t i h1 e h2 kd H U pu n (by omega) w hD;unfold Z5;rw[e,h3];exact this
 ·have:=Ziz d us t i h1 e h2 kd H U pu n w hD;unfold Z5;rw[e,h3];exact this
 ·have:=Zgr d us t i h1 e h2 kd H U pu n w hD;unfold Z5;rw[e,h3];exact this
end
def Yu(c:Nat):ByteArray:=if c=0 then ⟨#[68,85,77,77,89]⟩ else if c=1 then ⟨#[75,78,79,87,78]⟩ else if c=2 then ⟨#[85,78,75,78,79,87,78]⟩ else if c=3 then ⟨#[85,83,69,82]⟩ else ⟨#[]⟩
theorem Fd(c:Nat)(hc:c<=3)(w:World):Calls Tryz.prog 47 #[.int .i64 (c:Int)] w fun e w'=>e = .returned (.string (Yu c))/\Ext w w':=by
 rcases c with _|_|_|_|c
 ·go_enter Tryz.func47,Tryz.ntmps47
  go_wp2_with fail
  first|go_ret|go_ret2
  exact⟨rfl,Fr.refl _ _⟩
 ·go_enter Tryz.func47,Tryz.ntmps47
  go_wp2_with fail
  first|go_ret|go_ret2
  exact⟨rfl,Fr.refl _ _⟩
 ·go_enter Tryz.func47,Tryz.ntmps47
  go_wp2_with fail
  first|go_ret|go_ret2
  exact⟨rfl,Fr.refl _ _⟩
 ·go_enter Tryz.func47,Tryz.ntmps47
  go_wp2_with fail
  first|go_ret|go_ret2
  exact⟨rfl,Fr.refl _ _⟩
 ·omega
end
section
open Go.RowKit DT SS TR LT
theorem Nk{w:World}{rb kd:Nat}{pu:Option Addr}{idx:Nat}{id:Int}{cls pos st fi:Nat}{sf:ByteArray}(h:w.heap[rb]? = some (Zn kd pu ⟨idx,id,cls,pos,st,fi,sf⟩)) :
  w.cell? ⟨rb,0,none⟩=some (.int .i64 (idx:Int))/\w.cell? ⟨rb,1,none⟩=some (.int .i64 id)/\w.cell? ⟨rb,2,none⟩=some (.int .i64 (cls:Int))/\w.cell? ⟨rb,3,none⟩=some (.int .i64 (pos:Int))/\w.cell? ⟨rb,4,none⟩=some (.int .i64 (st:Int))/\w.cell? ⟨rb,5,none⟩=some (.int .i64 (fi:Int))/\w.cell? ⟨rb,6,none⟩=some (.string sf)/\w.cell? ⟨rb,7,none⟩=some (.pointer (some ⟨kd,0,none⟩))/\w.cell? ⟨rb,8,none⟩=some (.pointer pu)/\rb<w.heap.size :=
 ⟨cell_of h 0 _ rfl,cell_of h 1 _ rfl,cell_of h 2 _ rfl,cell_of h 3 _ rfl,cell_of h 4 _ rfl,cell_of h 5 _ rfl,cell_of h 6 _ rfl,cell_of h 7 _ rfl,cell_of h 8 _ rfl,(Array.getElem?_eq_some_iff.1 h).1⟩
theorem Ik(t:Yn)(hc:t.cls=0\/t.cls=3)(kd:Nat)(pu:Option Addr)(key:ByteArray)(w:World):Calls Tryz.prog 81 #[.agg (Z9 kd pu t).toArray,.string key] w fun e w'=>e = .returned (Ye none)/\Ext w w':=by
 obtain⟨idx,id,cls,pos,st,fi,sf⟩:=t;simp only at hc;rcases hc with rfl|rfl
 ·go_enter Tryz.func81,Tryz.ntmps81
  go_wp2_with fail
  first|go_ret|go_ret2
  exact⟨rfl,(Fr.refl _ _).alloc _⟩
 ·go_enter Tryz.func81,Tryz.ntmps81
  go_wp2_with fail
  first|go_ret|go_ret2
  exact⟨rfl,(Fr.refl _ _).alloc _⟩
theorem Zig{d:Zf}{us:List GRec}{t:Yn}{kd H U:Nat}{pu:Option Addr}{w:World}(ht:Vs d us t)(hc:t.cls=1)(key:ByteArray)(hD:Wm d us kd pu H U w) :
  Calls Tryz.prog 81 #[.agg (Z9 kd pu t).toArray,.string key] w fun e w'=>e = .returned (Ye ((Xo (Zi d.meta0) key).bind (Xt (Z5 d us t))))/\Ext w w':=by
 obtain⟨mm,_,hm1,hm2,_,_⟩:=hD.dict.marks;have hmk:=hD.marks.1;have hl:=Rj key (Zi d.meta0);have hb:∀ v,Xo (Zi d.meta0) key=some v->0<=v/\v<=100:=fun v h=>by obtain⟨m,hm,rfl⟩:=Ri h;exact hmk m hm
 have X0:Ext w (w.alloc (Zn kd pu t)):=(Fr.refl _ _).alloc _;have CF:Hid (∀ (W:World) (k:Int),Ext w W->k<=9223372036854775807->Calls Tryz.prog 51 #[.agg (Z9 kd pu t).toArray,.int .i64 k] W fun e w'=>e = .returned (Ye (Xt (Z5 d us t) k))/\Ext W w'):=fun W k f hk=>G8 ht k hk (hD.ext f)
 have hm1:=X0.cell hm1 id;have HM:=Lib.hid (hm2.keep X0 id);have lk:=lt_of_cell hm1;clear hm2 ht hD hmk;generalize Z5 d us t=fs at *;generalize Xi (Zi d.meta0)=L at *;generalize Xo (Zi d.meta0) key=a at *;obtain⟨idx,id,cls,pos,st,fi,sf⟩:=t;simp only at hc;subst hc;obtain⟨rb,hrb⟩:∃ rb,rb=w.heap.size:=⟨_,rfl⟩;have K1:(w.alloc (Zn kd pu ⟨idx,id,1,pos,st,fi,sf⟩)).heap[rb]? = some (Zn kd pu ⟨idx,id,1,pos,st,fi,sf⟩):=alloc_at' _ _ hrb;obtain⟨b0,b1,b2,b3,b4,b5,b6,b7,b8,lb⟩:=Nk K1;clear K1;go_enter Tryz.func81,Tryz.ntmps81
 go_upto_region 2 with fail
 have HX:=Lib.hid X0;rw[<- hrb];clear hrb X0;generalize w.alloc _=W at *;rcases a with _|v
 ·simp only[Option.map_none]at hl
  go_wp2_with (first
   | (at_lookup;refine Zj rfl _ _ true rfl Uj Tryz.underlying156 Tryz.underlying9 (Qe _) rfl HM.out key rfl ?_;simp only[if_true,hl,Option.getD_none,Option.isSome_none])
   | fail)
  first|go_ret|go_ret2
  exact⟨rfl,HX.out⟩
 ·simp only[Option.map_some]at hl;have hv:=hb v rfl;have hw:IntKind.i64.wrap v=v:=by rw[IntKind.wrap_i64];omega
  clear hb
  go_upto_region 13 with (first
   | (at_lookup;refine Zj rfl _ _ true rfl Uj Tryz.underlying156 Tryz.underlying9 (Qe _) rfl HM.out key rfl ?_;simp only[if_true,hl,Option.getD_some,Option.isSome_some])
   | fail)
  go_wp2_with (first
   | (go_at_call 51;refine (CF.out W v HX.out (by omega)).mono ?_;rintro e w5 ⟨rfl,hx5⟩;have HX5:=Lib.hid (Z0 HX.out hx5);clear hx5)
   | fail)
  first|go_ret|go_ret2
  exact⟨rfl,HX5.out⟩
theorem Zif{d:Zf}{us:List GRec}{t:Yn}{kd H U:Nat}{pu:Option Addr}{w:World}(ht:Vs d us t)(hc:t.cls=2)(key:ByteArray)(hD:Wm d us kd pu H U w) :
  Calls Tryz.prog 81 #[.agg (Z9 kd pu t).toArray,.string key] w fun e w'=>e = .returned (Ye ((Xo (Zi d.unkMeta) key).bind (Xt (Z5 d us t))))/\Ext w w':=by
 obtain⟨_,mm,_,_,hm1,hm2⟩:=hD.dict.marks;have hmk:=hD.marks.2;have hl:=Rj key (Zi d.unkMeta);have hb:∀ v,Xo (Zi d.unkMeta) key=some v->0<=v/\v<=100:=fun v h=>by obtain⟨m,hm,rfl⟩:=Ri h;exact hmk m hm
 have X0:Ext w (w.alloc (Zn kd pu t)):=(Fr.refl _ _).alloc _;have CF:Hid (∀ (W:World) (k:Int),Ext w W->k<=9223372036854775807->Calls Tryz.prog 51 #[.agg (Z9 kd pu t).toArray,.int .i64 k] W fun e w'=>e = .returned (Ye (Xt (Z5 d us t) k))/\Ext W w'):=fun W k f hk=>G8 ht k hk (hD.ext f)
 have hm1:=X0.cell hm1 id;have HM:=Lib.hid (hm2.keep X0 id);have lk:=lt_of_cell hm1;clear hm2 ht hD hmk;generalize Z5 d us t=fs at *;generalize Xi (Zi d.unkMeta)=L at *;generalize Xo (Zi d.unkMeta) key=a at *;obtain⟨idx,id,cls,pos,st,fi,sf⟩:=t;simp only at hc;subst hc;obtain⟨rb,hrb⟩:∃ rb,rb=w.heap.size:=⟨_,rfl⟩;have K1:(w.alloc (Zn kd pu ⟨idx,id,2,pos,st,fi,sf⟩)).heap[rb]? = some (Zn kd pu ⟨idx,id,2,pos,st,fi,sf⟩):=alloc_at' _ _ hrb;obtain⟨b0,b1,b2,b3,b4,b5,b6,b7,b8,lb⟩:=Nk K1;clear K1;go_enter Tryz.func81,Tryz.ntmps81
 go_upto_region 2 with fail
 have HX:=Lib.hid X0;rw[<- hrb];clear hrb X0;generalize w.alloc _=W at *;rcases a with _|v
 ·simp only[Option.map_none]at hl
  go_wp2_with (first
   | (at_lookup;refine Zj rfl _ _ true rfl Uj Tryz.underlying156 Tryz.underlying9 (Qe _) rfl HM.out key rfl ?_;simp only[if_true,hl,Option.getD_none,Option.isSome_none])
   | fail)
  first|go_ret|go_ret2
  exact⟨rfl,HX.out⟩
 ·simp only[Option.map_some]at hl;have hv:=hb v rfl;have hw:IntKind.i64.wrap v=v:=by rw[IntKind.wrap_i64];omega
  clear hb
  go_upto_region 13 with (first
   | (at_lookup;refine Zj rfl _ _ true rfl Uj Tryz.underlying156 Tryz.underlying9 (Qe _) rfl HM.out key rfl ?_;simp only[if_true,hl,Option.getD_some,Option.isSome_some])
   | fail)
  go_wp2_with (first
   | (go_at_call 51;refine (CF.out W v HX.out (by omega)).mono ?_;rintro e w5 ⟨rfl,hx5⟩;have HX5:=Lib.hid (Z0 HX.out hx5);clear hx5)
   | fail)
  first|go_ret|go_ret2
  exact⟨rfl,HX5.out⟩
theorem Qm{d:Zf}{us:List GRec}{t:Yn}{kd H U:Nat}{pu:Option Addr}{w:World}(ht:Vs d us t)(key:ByteArray)(hD:Wm d us kd pu H U w) :
  Calls Tryz.prog 81 #[.agg (Z9 kd pu t).toArray,.string key] w fun e w'=>e = .returned (Ye (Yv d us t key))/\Ext w w':=by
 rcases ht.cases with e|⟨i,e,_⟩|⟨i,e,_⟩|⟨i,e,_⟩
 ·have:=Ik t (.inl e) kd pu key w;unfold Yv;rw[e];exact this
 ·have:=Zig ht e key hD;unfold Yv;rw[e];exact this
 ·have:=Zif ht e key hD;unfold Yv;rw[e];exact this
 ·have:=Ik t (.inr e) kd pu key w;unfold Yv;rw[e];exact this
abbrev O3:ByteArray:=⟨#[95,98,97,115,101]⟩
abbrev Oy:ByteArray:=⟨#[95,114,101,97,100,105,110,103]⟩
abbrev Oz:ByteArray:=⟨#[95,112,114,111,110,117,110,99,105,97,116,105,111,110]⟩
abbrev Zf4:ByteArray:=⟨#[95,105,110,102,108,101,99,116,105,111,110,97,108,95,116,121,112,101]⟩
abbrev Du:ByteArray:=⟨#[95,105,110,102,108,101,99,116,105,111,110,97,108,95,102,111,114,109]⟩
theorem M7{d:Zf}{us:List GRec}{t:Yn}{kd H U:Nat}{pu:Option Addr}{w:World}(ht:Vs d us t)(hD:Wm d us kd pu H U w) :
  Calls Tryz.prog 41 #[.agg (Z9 kd pu t).toArray] w fun e w'=>e = .returned (Ye (Yv d us t O3))/\Ext w w':=by
 have X0:Ext w (w.alloc (Zn kd pu t)):=(Fr.refl _ _).alloc _;have CF:=Lib.hid (Qm ht O3 (hD.ext X0));clear ht hD;generalize Yv d us t O3=res at *;obtain⟨idx,id,cls,pos,st,fi,sf⟩:=t;obtain⟨rb,hrb⟩:∃ rb,rb=w.heap.size:=⟨_,rfl⟩;obtain⟨b0,b1,b2,b3,b4,b5,b6,b7,b8,lb⟩:=Nk (alloc_at' w (Zn kd pu ⟨idx,id,cls,pos,st,fi,sf⟩) hrb);go_enter Tryz.func41,Tryz.ntmps41
 go_upto_region 1 with fail
 have HX:=Lib.hid X0;rw[<- hrb];clear hrb X0;generalize w.alloc _=W at *
 go_wp2_with (first
  | (go_at_call 81;refine CF.out.mono ?_;rintro e w5 ⟨rfl,hx5⟩;have HX5:=Lib.hid (Z0 HX.out hx5);clear hx5)
  | fail)
 first|go_ret|go_ret2
 exact⟨rfl,HX5.out⟩
theorem M5{d:Zf}{us:List GRec}{t:Yn}{kd H U:Nat}{pu:Option Addr}{w:World}(ht:Vs d us t)(hD:Wm d us kd pu H U w) :
  Calls Tryz.prog 42 #[.agg (Z9 kd pu t).toArray] w fun e w'=>e = .returned (Ye (Yv d us t Oy))/\Ext w w':=by
 have X0:Ext w (w.alloc (Zn kd pu t)):=(Fr.refl _ _).alloc _;have CF:=Lib.hid (Qm ht Oy (hD.ext X0));clear ht hD;generalize Yv d us t Oy=res at *;obtain⟨idx,id,cls,pos,st,fi,sf⟩:=t;obtain⟨rb,hrb⟩:∃ rb,rb=w.heap.size:=⟨_,rfl⟩;obtain⟨b0,b1,b2,b3,b4,b5,b6,b7,b8,lb⟩:=Nk (alloc_at' w (Zn kd pu ⟨idx,id,cls,pos,st,fi,sf⟩) hrb);go_enter Tryz.func42,Tryz.ntmps42
 go_upto_region 1 with fail
 have HX:=Lib.hid X0;rw[<- hrb];clear hrb X0;generalize w.alloc _=W at *
 go_wp2_with (first
  | (go_at_call 81;refine CF.out.mono ?_;rintro e w5 ⟨rfl,hx5⟩;have HX5:=Lib.hid (Z0 HX.out hx5);clear hx5)
  | fail)
 first|go_ret|go_ret2
 exact⟨rfl,HX5.out⟩
theorem M6{d:Zf}{us:List GRec}{t:Yn}{kd H U:Nat}{pu:Option Addr}{w:World}(ht:Vs d us t)(hD:Wm d us kd pu H U w) :
  Calls Tryz.prog 43 #[.agg (Z9 kd pu t).toArray] w fun e w'=>e = .returned (Ye (Yv d us t Oz))/\Ext w w':=by
 have X0:Ext w (w.alloc (Zn kd pu t)):=(Fr.refl _ _).alloc _;have CF:=Lib.hid (Qm ht Oz (hD.ext X0));clear ht hD;generalize Yv d us t Oz=res at *;obtain⟨idx,id,cls,pos,st,fi,sf⟩:=t;obtain⟨rb,hrb⟩:∃ rb,rb=w.heap.size:=⟨_,rfl⟩;obtain⟨b0,b1,b2,b3,b4,b5,b6,b7,b8,lb⟩:=Nk (alloc_at' w (Zn kd pu ⟨idx,id,cls,pos,st,fi,sf⟩) hrb);go_enter Tryz.func43,Tryz.ntmps43
 go_upto_region 1 with fail
 have HX:=Lib.hid X0;rw[<- hrb];clear hrb X0;generalize w.alloc _=W at *
 go_wp2_with (first
  | (go_at_call 81;refine CF.out.mono ?_;rintro e w5 ⟨rfl,hx5⟩;have HX5:=Lib.hid (Z0 HX.out hx5);clear hx5)
  | fail)
 first|go_ret|go_ret2
 exact⟨rfl,HX5.out⟩
theorem Zah{d:Zf}{us:List GRec}{t:Yn}{kd H U:Nat}{pu:Option Addr}{w:World}(ht:Vs d us t)(hD:Wm d us kd pu H U w) :
  Calls Tryz.prog 44 #[.agg (Z9 kd pu t).toArray] w fun e w'=>e = .returned (Ye (Yv d us t Zf4))/\Ext w w':=by
 have X0:Ext w (w.alloc (Zn kd pu t)):=(Fr.refl _ _).alloc _;have CF:=Lib.hid (Qm ht Zf4 (hD.ext X0));clear ht hD;generalize Yv d us t Zf4=res at *;obtain⟨idx,id,cls,pos,st,fi,sf⟩:=t;obtain⟨rb,hrb⟩:∃ rb,rb=w.heap.size:=⟨_,rfl⟩;obtain⟨b0,b1,b2,b3,b4,b5,b6,b7,b8,lb⟩:=Nk (alloc_at' w (Zn kd pu ⟨idx,id,cls,pos,st,fi,sf⟩) hrb);go_enter Tryz.func44,Tryz.ntmps44
 go_upto_region 1 with fail
 have HX:=Lib.hid X0;rw[<- hrb];clear hrb X0;generalize w.alloc _=W at *
 go_wp2_with (first
  | (go_at_call 81;refine CF.out.mono ?_;rintro e w5 ⟨rfl,hx5⟩;have HX5:=Lib.hid (Z0 HX.out hx5);clear hx5)
  | fail)
 first|go_ret|go_ret2
 exact⟨rfl,HX5.out⟩
theorem Cj{d:Zf}{us:List GRec}{t:Yn}{kd H U:Nat}{pu:Option Addr}{w:World}(ht:Vs d us t)(hD:Wm d us kd pu H U w) :
  Calls Tryz.prog 45 #[.agg (Z9 kd pu t).toArray] w fun e w'=>e = .returned (Ye (Yv d us t Du))/\Ext w w':=by
 have X0:Ext w (w.alloc (Zn kd pu t)):=(Fr.refl _ _).alloc _;have CF:=Lib.hid (Qm ht Du (hD.ext X0));clear ht hD;generalize Yv d us t Du=res at *;obtain⟨idx,id,cls,pos,st,fi,sf⟩:=t;obtain⟨rb,hrb⟩:∃ rb,rb=w.heap.size:=⟨_,rfl⟩;obtain⟨b0,b1,b2,b3,b4,b5,b6,b7,b8,lb⟩:=Nk (alloc_at' w (Zn kd pu ⟨idx,id,cls,pos,st,fi,sf⟩) hrb);go_enter Tryz.func45,Tryz.ntmps45
 go_upto_region 1 with fail
 have HX:=Lib.hid X0;rw[<- hrb];clear hrb X0;generalize w.alloc _=W at *
 go_wp2_with (first
  | (go_at_call 81;refine CF.out.mono ?_;rintro e w5 ⟨rfl,hx5⟩;have HX5:=Lib.hid (Z0 HX.out hx5);clear hx5)
  | fail)
 first|go_ret|go_ret2
 exact⟨rfl,HX5.out⟩
theorem Ux(s:ByteArray)(b:Bool)(w:World):Calls Tryz.prog 40 #[.string s,.bool b] w fun e w'=>e = .returned (.agg #[.string s,.bool b])/\Ext w w':=by
 go_enter Tryz.func40,Tryz.ntmps40
 go_wp2_with fail
 have X:Ext w (w.alloc (.cells #[.string s,.bool b] 48)):=(Fr.refl _ w).alloc _;have z0:(w.alloc (.cells #[.string s,.bool b] 48)).cell? ⟨w.heap.size,0,none⟩=some (.string s):=cell_of (alloc_at w _) 0 _ rfl;have z1:(w.alloc (.cells #[.string s,.bool b] 48)).cell? ⟨w.heap.size,1,none⟩=some (.bool b):=cell_of (alloc_at w _) 1 _ rfl;generalize w.alloc _=W at *;refine bodyPost_ret (by simp[results,Tryz.results40,z0,z1,go_sem];try rfl) rfl ?_;exact⟨rfl,X⟩
end
section
open Go.RowKit DT SS TR LT
def Fh(w:World)(B:Nat)(x:Option (List ByteArray × List ByteArray))(v:Value):Prop :=
 match x with
 | none=>v = .pointer none
 | some (a,b)=>∃ g v1 v2,v = .pointer (some ⟨g,0,none⟩)/\w.cell? ⟨g,0,none⟩=some v1/\w.cell? ⟨g,1,none⟩=some v2/\B<=g/\strs.R w (fun j=>B<=j) a [v1]/\strs.R w (fun j=>B<=j) b [v2]
def G9(us:List GRec)(t:Yn):Option (List ByteArray × List ByteArray):=if t.cls=3 then some ((rOf us t).tokens,(rOf us t).yomi) else none
theorem P1(t:Yn)(hc:t.cls=0\/t.cls=1\/t.cls=2)(kd:Nat)(pu:Option Addr)(w:World):Calls Tryz.prog 48 #[.agg (Z9 kd pu t).toArray] w fun e w'=>e = .returned (.pointer none)/\Ext w w':=by
 obtain⟨idx,id,cls,pos,st,fi,sf⟩:=t;simp only at hc;rcases hc with rfl|rfl|rfl
 ·go_enter Tryz.func48,Tryz.ntmps48
  go_wp2_with fail
  first|go_ret|go_ret2
  exact⟨rfl,(Fr.refl _ _).alloc _⟩
 ·go_enter Tryz.func48,Tryz.ntmps48
  go_wp2_with fail
  first|go_ret|go_ret2
  exact⟨rfl,(Fr.refl _ _).alloc _⟩
 ·go_enter Tryz.func48,Tryz.ntmps48
  go_wp2_with fail
  first|go_ret|go_ret2
  exact⟨rfl,(Fr.refl _ _).alloc _⟩
theorem Zao(d:Zf)(us:List GRec)(t:Yn)(i:Nat)(hid:t.id=i)(hc:t.cls=3)(hi:i<us.length)(kd H U:Nat)(pu:Option Addr)(w:World)(hD:Wm d us kd pu H U w) :
  Calls Tryz.prog 48 #[.agg (Z9 kd pu t).toArray] w fun e w'=>∃ v,e = .returned v/\Fh w' w.heap.size (some (us[i].tokens,us[i].yomi)) v/\Ext w w':=by
 have mixed:Tryz.prog.follows .mixedOrders=true:=by kernel_rfl
 obtain⟨ku,n,C,oC,cC,ca,cb,A,B,rfl,hin,K0,hA,hB,hfew,hps⟩:=Hl hD t i hid hc hi;generalize us[i]=x at *;clear hD hi;obtain⟨idx,id,cls,pos,st,fi,sf⟩:=t;simp only at hid hc;subst hid hc;obtain⟨rb,hrb⟩:∃ rb,rb=w.heap.size:=⟨_,rfl⟩;have X0:Ext w (w.alloc (Zn kd (some ⟨ku,0,none⟩) ⟨idx,i,3,pos,st,fi,sf⟩)):=(Fr.refl _ _).alloc _;rw[<- hrb]at K0;go_enter Tryz.func48,Tryz.ntmps48
 go_upto_region 1 with fail
 have H0:=Lib.hid (And.intro X0 (And.intro (strs.ext hA X0) (strs.ext hB X0)));rw[<- hrb];have HF:Hid (∀ W',Ext w W'->(rb<W'.heap.size->True)):=fun _ _ _=>trivial
 have HF:Hid (∀ W',Ext (w.alloc (Zn kd (some ⟨ku,0,none⟩) ⟨idx,i,3,pos,st,fi,sf⟩)) W'->UsF x i ku rb n C oC cC ca cb A B W'):=fun W' f=>K0.ext f
 clear hA hB hrb X0 K0;generalize w.alloc _=W at *;have HFW:=Lib.hid (And.intro (Nat.le_trans (Nw x.tokens) hfew.2.2.1) (Nat.le_trans (Nw x.yomi) hfew.2.2.2));clear hfew;have hiz:(i:Int)<(n:Int):=by omega
 have hi0:(0:Int)<=(i:Int):=by omega
 obtain⟨c1,c2,c3,c4,b1,b2,b8,lb,lk⟩:=HF.out W (Fr.refl _ _);have hmk:∀ W:World,(Instr.makeSlice 43 (.int .i64 (x.tokens.length:Int)) (.int .i64 (x.tokens.length:Int))).run Tryz.prog W = .ok (.slice (some ⟨W.heap.size,0,none⟩) x.tokens.length x.tokens.length) (W.alloc (.cells (madeCells #[.string ⟨#[]⟩] x.tokens.length) 9)):=fun W=>Me x.tokens.length x.tokens.length (Nat.le_refl _) (by have:=HFW.out;omega) W
 go_upto_region 3 with fail
 go_still_tail 11,(by kernel_rfl)
 change wpList _ _ _ _ _ W.drew;go_wp2_with fail
 obtain⟨N,hN⟩:∃ N,N=W.heap.size:=⟨_,rfl⟩;rw[<- hN];have F2:Ext W (W.alloc (.cells (madeCells #[.string ⟨#[]⟩] x.tokens.length) 9)).drew:=((Fr.refl _ W).alloc _).drew;have K2:(W.alloc (.cells (madeCells #[.string ⟨#[]⟩] x.tokens.length) 9)).drew.heap[N]? = some (.cells (madeCells #[.string ⟨#[]⟩] x.tokens.length) 9 (0,0)):=alloc_at' _ _ hN;have hNwN:w.heap.size<=N:=by rw[hN];exact H0.out.1.size
 have hNW:W.heap.size<=N:=by omega
 clear hN hmk c1 c2 c3 c4 b1 b2 b8 lb lk;obtain⟨c1,c2,c3,c4,b1,b2,b8,lb,lk⟩:=HF.out _ F2;have HK2:=Lib.hid (And.intro F2 K2);have HS:=Lib.hid (strs.ext H0.out.2.1 F2);clear F2 K2;generalize (W.alloc _).drew=W2 at *;go_upto_region 4 with fail
 go_still_tail 11,(by kernel_rfl)
 change wpList _ _ _ _ _ W2.drew
 have hsp:(0:Nat)<((x.tokens.map Value.string)).length->some (⟨N,0,none⟩:Addr)=some ⟨N,0,none⟩/\∃ ad,A=some ad/\∀ j v,(x.tokens.map Value.string)[j]? = some v->W2.drew.cell? (ad.add j)=some v:=fun h0=>by
  obtain⟨b,o,e,_,hcc⟩:=X7 HS.out (fun e=>by rw[e]at h0;simp at h0);exact⟨rfl,_,e,hcc⟩
 refine wpList_copy_splice rfl _ _ 43 43 rfl 9 Tryz.underlying43 (by kernel_rfl) (some ⟨N,0,none⟩) A x.tokens.length x.tokens.length x.tokens.length ca rfl rfl N 0 (madeCells #[.string ⟨#[]⟩] x.tokens.length).toList 9 HK2.out.2 (x.tokens.map Value.string) (by simp) hsp (by rw[List.length_map];simp[madeCells]) (by intro y hy;obtain⟨z,_,rfl⟩:=List.mem_map.1 hy;rfl) N W2.drew (Below.refl _ _) (Nat.le_refl _) ?_;intro W3 h7 hb7;rw[Pt _ _ (by simp[madeCells])]at h7;rw[List.length_map];have X3:Ext W W3:=Fr.of_below ((Fr.below HK2.out.1).drew.trans (hb7.mono hNW));have E1:=Lib.hid (strs.mono (O':=fun j=>w.heap.size<=j) (fun j _ hj=>Nat.le_trans hNwN hj) (Tw h7.out rfl (fun s hs=>Uw HS.out s hs) (by have:=HFW.out;omega)));have H1:=Lib.hid (And.intro (Z0 H0.out.1 X3) (And.intro (strs.ext H0.out.2.1 X3) (strs.ext H0.out.2.2 X3)));have HF:Hid (∀ W',Ext W3 W'->UsF x i ku rb n C oC cC ca cb A B W'):=fun W' f=>HF.out W' (Z0 X3 f)
 have XX1:=Lib.hid X3;clear HK2 HS H0 hsp c1 c2 c3 c4 b1 b2 b8 lb lk hb7 h7 X3;obtain⟨c1,c2,c3,c4,b1,b2,b8,lb,lk⟩:=HF.out W3 (Fr.refl _ _);have hmk:∀ W:World,(Instr.makeSlice 43 (.int .i64 (x.yomi.length:Int)) (.int .i64 (x.yomi.length:Int))).run Tryz.prog W = .ok (.slice (some ⟨W.heap.size,0,none⟩) x.yomi.length x.yomi.length) (W.alloc (.cells (madeCells #[.string ⟨#[]⟩] x.yomi.length) 9)):=fun W=>Me x.yomi.length x.yomi.length (Nat.le_refl _) (by have:=HFW.out;omega) W
 go_upto_region 5 with fail
 go_still_tail 11,(by kernel_rfl)
 change wpList _ _ _ _ _ W3.drew;go_wp2_with fail
 obtain⟨M,hN⟩:∃ M,M=W3.heap.size:=⟨_,rfl⟩;rw[<- hN];have F2:Ext W3 (W3.alloc (.cells (madeCells #[.string ⟨#[]⟩] x.yomi.length) 9)).drew:=((Fr.refl _ W3).alloc _).drew;have K2:(W3.alloc (.cells (madeCells #[.string ⟨#[]⟩] x.yomi.length) 9)).drew.heap[M]? = some (.cells (madeCells #[.string ⟨#[]⟩] x.yomi.length) 9 (0,0)):=alloc_at' _ _ hN;have hNwM:w.heap.size<=M:=by rw[hN];exact H1.out.1.size
 have hNW:W3.heap.size<=M:=by omega
 clear hN hmk c1 c2 c3 c4 b1 b2 b8 lb lk;obtain⟨c1,c2,c3,c4,b1,b2,b8,lb,lk⟩:=HF.out _ F2;have HK2:=Lib.hid (And.intro F2 K2);have HS:=Lib.hid (strs.ext H1.out.2.2 F2);clear F2 K2;generalize (W3.alloc _).drew=W5 at *;go_upto_region 6 with fail
 go_still_tail 11,(by kernel_rfl)
 change wpList _ _ _ _ _ W5.drew
 have hsp:(0:Nat)<((x.yomi.map Value.string)).length->some (⟨M,0,none⟩:Addr)=some ⟨M,0,none⟩/\∃ ad,B=some ad/\∀ j v,(x.yomi.map Value.string)[j]? = some v->W5.drew.cell? (ad.add j)=some v:=fun h0=>by
  obtain⟨b,o,e,_,hcc⟩:=X7 HS.out (fun e=>by rw[e]at h0;simp at h0);exact⟨rfl,_,e,hcc⟩
 refine wpList_copy_splice rfl _ _ 43 43 rfl 9 Tryz.underlying43 (by kernel_rfl) (some ⟨M,0,none⟩) B x.yomi.length x.yomi.length x.yomi.length cb rfl rfl M 0 (madeCells #[.string ⟨#[]⟩] x.yomi.length).toList 9 HK2.out.2 (x.yomi.map Value.string) (by simp) hsp (by rw[List.length_map];simp[madeCells]) (by intro y hy;obtain⟨z,_,rfl⟩:=List.mem_map.1 hy;rfl) M W5.drew (Below.refl _ _) (Nat.le_refl _) ?_;intro W6 h7 hb7;rw[Pt _ _ (by simp[madeCells])]at h7;rw[List.length_map];have X3:Ext W3 W6:=Fr.of_below ((Fr.below HK2.out.1).drew.trans (hb7.mono hNW));have E2:=Lib.hid (strs.mono (O':=fun j=>w.heap.size<=j) (fun j _ hj=>Nat.le_trans hNwM hj) (Tw h7.out rfl (fun s hs=>Uw HS.out s hs) (by have:=HFW.out;omega)));have H2:=Lib.hid (And.intro (Z0 H1.out.1 X3) (And.intro (strs.ext H1.out.2.1 X3) (strs.ext H1.out.2.2 X3)));have HF:Hid (∀ W',Ext W6 W'->UsF x i ku rb n C oC cC ca cb A B W'):=fun W' f=>HF.out W' (Z0 X3 f)
 have XX2:=Lib.hid X3;clear HK2 HS H1 hsp c1 c2 c3 c4 b1 b2 b8 lb lk hb7 h7 X3;obtain⟨c1,c2,c3,c4,b1,b2,b8,lb,lk⟩:=HF.out W6 (Fr.refl _ _);clear HF HFW;go_upto_region 7 with fail
 go_wp2_with fail
 have X9:Ext w (W6.alloc (.cells #[.slice (some ⟨N,0,none⟩) x.tokens.length x.tokens.length,.slice (some ⟨M,0,none⟩) x.yomi.length x.yomi.length] 97)):=Z0 H2.out.1 ((Fr.refl _ _).alloc _);have z0:=cell_of (alloc_at W6 (.cells #[.slice (some ⟨N,0,none⟩) x.tokens.length x.tokens.length,.slice (some ⟨M,0,none⟩) x.yomi.length x.yomi.length] 97)) 0 _ rfl;have z1:=cell_of (alloc_at W6 (.cells #[.slice (some ⟨N,0,none⟩) x.tokens.length x.tokens.length,.slice (some ⟨M,0,none⟩) x.yomi.length x.yomi.length] 97)) 1 _ rfl;first|go_ret|go_ret2
 exact⟨_,rfl,⟨_,_,_,rfl,z0,z1,H2.out.1.size,strs.ext E1.out (Z0 XX2.out ((Fr.refl _ _).alloc _)),strs.ext E2.out ((Fr.refl _ _).alloc _)⟩,X9⟩
theorem Zdy{d:Zf}{us:List GRec}{t:Yn}{kd H U:Nat}{pu:Option Addr}{w:World}(ht:Vs d us t)(hD:Wm d us kd pu H U w) :
  Calls Tryz.prog 48 #[.agg (Z9 kd pu t).toArray] w fun e w'=>∃ v,e = .returned v/\Fh w' w.heap.size (G9 us t) v/\Ext w w':=by
 unfold G9;rcases ht.cases with e|⟨i,e,_⟩|⟨i,e,_⟩|⟨i,e,h1,h2,h3⟩
 ·rw[if_neg (by omega)];exact (P1 t (.inl e) kd pu w).mono fun _ _ h=>⟨_,h.1,rfl,h.2⟩
 ·rw[if_neg (by omega)];exact (P1 t (.inr (.inl e)) kd pu w).mono fun _ _ h=>⟨_,h.1,rfl,h.2⟩
 ·rw[if_neg (by omega)];exact (P1 t (.inr (.inr e)) kd pu w).mono fun _ _ h=>⟨_,h.1,rfl,h.2⟩
 ·rw[if_pos e,h3];exact Zao d us t i h1 e h2 kd H U pu w hD
end
end Go.Proofs.YtoliamijgmifkaaGreatDoor
