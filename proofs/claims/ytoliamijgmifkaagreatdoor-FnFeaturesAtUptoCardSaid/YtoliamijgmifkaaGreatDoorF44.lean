/- The methods of tokens: FeatureAt. -/
import Derived.Test.YtoliamijgmifkaaGreatDoorF43
set_option linter.all false
set_option maxRecDepth 100000
set_option maxHeartbeats 2000000
namespace Go.Proofs.YtoliamijgmifkaaGreatDoor
open Go.RowKit DT SS TR LT
def Xt(l:List ByteArray)(k:Int):Option ByteArray:=if k<0 then none else l[k.toNat]?
abbrev Ye(o:Option ByteArray):Value:=.tuple #[.string (o.getD ⟨#[]⟩),.bool o.isSome]
theorem Zb2(t:Yn)(kd:Nat)(pu:Option Addr)(k:Int)(hk:k<0)(w:World):Calls Tryz.prog 51 #[.agg (Z9 kd pu t).toArray,.int .i64 k] w fun e w'=>e = .returned (Ye none)/\Ext w w':=by
 obtain⟨idx,id,cls,pos,st,fi,sf⟩:=t;go_enter Tryz.func51,Tryz.ntmps51
 go_wp2_with fail
 first|go_ret|go_ret2
 exact⟨rfl,(Fr.refl _ _).alloc _⟩
theorem Zdx(d:Zf)(us:List GRec)(t:Yn)(i:Nat)(hid:t.id=i)(hc:t.cls=1)(hi:i<(Zr d).length)(kd H U:Nat)(pu:Option Addr)(n:Nat)(hn:n<=9223372036854775807)(w:World)(hD:Wm d us kd pu H U w) :
  Calls Tryz.prog 51 #[.agg (Z9 kd pu t).toArray,.int .i64 (n:Int)] w fun e w'=>e = .returned (Ye (((Zr d)[i].pos++(Zr d)[i].contents)[n]?))/\Ext w w':=by
 have mixed:Tryz.prog.follows .mixedOrders=true:=by kernel_rfl
 obtain⟨nw,nl,P,cP,Q,cQ,gl,C,cC,R,cR,hiw,K0,hP,hC,hfew,hnl⟩:=Zae hD t i hid hc hi;generalize (Zr d)[i]=x at *;have hpl:=hfew.1;have hcl:=hfew.2.1;clear hD hi hfew;obtain⟨idx,id,cls,pos,st,fi,sf⟩:=t;simp only at hid hc;subst hid hc;obtain⟨rb,hrb⟩:∃ rb,rb=w.heap.size:=⟨_,rfl⟩;have X0:Ext w (w.alloc (Zn kd pu ⟨idx,i,1,pos,st,fi,sf⟩)):=(Fr.refl _ _).alloc _;rw[<- hrb]at K0;have hn0:¬ (n:Int)<0:=by omega
 go_enter Tryz.func51,Tryz.ntmps51
 go_upto_region 1 with fail
 have HP:=Lib.hid hP;have HC:=Lib.hid (strs.ext hC X0);have HX:=Lib.hid X0;rw[<- hrb];clear hP hC hrb X0;generalize w.alloc _=W at *;obtain⟨p1,p2,p3,c1,c2,b1,b2,b7,lb,lk⟩:=id K0;have HF:Hid (∀ W',Ext W W'->KnF x i kd rb nw nl P cP cQ gl C cC cR Q R W'):=fun W' f=>K0.ext f
 clear K0;have hiz:(i:Int)<(nw:Int):=by omega
 have hi0:(0:Int)<=(i:Int):=by omega
 go_upto_region 5 with fail
 go_quiet (fail)
 have F1:Ext W (W.drewN nq):=(Fr.refl _ W).drewN nq;have HF1:=Lib.hid (HX.out.trans F1 (fun _ _ e=>e));have HCW:=Lib.hid (strs.ext HC.out F1);clear p1 p2 p3 c1 c2 b1 b2 b7 lb lk;obtain⟨p1,p2,p3,c1,c2,b1,b2,b7,lb,lk⟩:=HF.out _ F1;have HF2:Hid (∀ W',Ext (W.drewN nq) W'->KnF x i kd rb nw nl P cP cQ gl C cC cR Q R W'):=fun W' f=>HF.out _ (F1.trans f (fun _ _ e=>e))
 clear F1;generalize W.drewN nq=W1 at *;by_cases hlt:n<x.pos.length
 ·have hlz:(n:Int)<(x.pos.length:Int):=by omega
  have hn1:(0:Int)<=(n:Int):=by omega
  obtain⟨b,o,k,rfl,hq,hk,hnm⟩:=HP.out n hlt;have hq:=HF1.out.cell hq id;have hnm:=HF1.out.cell hnm id;have hk1:(0:Int)<=(k:Int)+1:=by omega
  have hk2:(k:Int)+1<(nl:Int)+1:=by omega
  have hk3:((k:Int)+1).toNat=k+1:=by omega
  have hk4:¬ (nl:Int)+1<(k:Int)+1:=by omega
  have hk5:wrap64 ((k:Int)+1)=(k:Int)+1:=by unfold wrap64;omega
  have HE:Hid ((x.pos++x.contents)[n]? = some x.pos[n]):=by
   show _=_;rw[List.getElem?_append_left hlt,List.getElem?_eq_getElem hlt]
  go_wp2_with fail
  first|go_ret|go_ret2
  exact⟨by rw[HE.out];rfl,HF1.out⟩
 ·have hlz:¬ (n:Int)<(x.pos.length:Int):=by omega
  have hsub:IntKind.i64.wrap ((n:Int)-(x.pos.length:Int))=((n-x.pos.length:Nat):Int):=by rw[IntKind.wrap_i64];omega
  obtain⟨m,hm⟩:∃ m,m=n-x.pos.length:=⟨_,rfl⟩;rw[<- hm]at hsub
  have HE:Hid ((x.pos++x.contents)[n]? = x.contents[m]?):=by
   show _=_;rw[List.getElem?_append_right (by omega),hm]
  have hin:¬ (nw:Int)<=(i:Int):=by omega
  clear hm;go_upto_region 12 with fail
  go_quiet (fail)
  have F3:Ext W1 (W1.drewN nq):=(Fr.refl _ W1).drewN nq;clear p1 p2 p3 c1 c2 b1 b2 b7 lb lk;obtain⟨p1,p2,p3,c1,c2,b1,b2,b7,lb,lk⟩:=HF2.out _ F3;have HF3:=Lib.hid (And.intro F3 (strs.ext HCW.out F3));clear F3;generalize W1.drewN nq=W2 at *;go_upto_region 14 with fail
  go_quiet (fail)
  have F4:Ext W2 (W2.drewN nq):=(Fr.refl _ W2).drewN nq;have HF4:=Lib.hid (And.intro (HF1.out.trans (HF3.out.1.trans F4 (fun _ _ e=>e)) (fun _ _ e=>e)) (strs.ext HF3.out.2 F4));clear F4 p1 p2 p3 c1 c2 b1 b2 b7 lb lk;generalize W2.drewN nq=W3 at *;by_cases hm:m<x.contents.length
  ·obtain⟨b,o,e,_,hcc⟩:=X7 HF4.out.2 (fun e=>by rw[e]at hm;simp at hm);subst e;have hq:=hcc m (.string x.contents[m]) (by rw[List.getElem?_map,List.getElem?_eq_getElem hm];rfl);rw[Addr.add_lit]at hq;have hmz:¬ (x.contents.length:Int)<=(m:Int):=by omega
   have hmz2:(m:Int)<(x.contents.length:Int):=by omega
   have hm0:(0:Int)<=(m:Int):=by omega
   have HE2:Hid (x.contents[m]? = some x.contents[m]):=List.getElem?_eq_getElem hm;clear hcc;go_wp2_with fail
   first|go_ret|go_ret2
   exact⟨by rw[HE.out,HE2.out];rfl,HF4.out.1⟩
  ·have hmz:(x.contents.length:Int)<=(m:Int):=by omega
   have HE2:Hid (x.contents[m]? = none):=List.getElem?_eq_none (by omega);go_wp2_with fail
   first|go_ret|go_ret2
   exact⟨by rw[HE.out,HE2.out];rfl,HF4.out.1⟩
end Go.Proofs.YtoliamijgmifkaaGreatDoor
