/- Texts as lists of characters'  -/
import Derived.Lib.MapLaws
import Derived.Lib.ValidLaws
import Derived.Lib.RuneCount
import Derived.Lib.SpaceUEq
import Derived.Test.YtlfoalomaofejaaGreatDoorC1
import Derived.Laws.RangeAny
import Derived.Lib.TrimU
set_option linter.all false
section
set_option maxRecDepth 20000
namespace UC
open Go Go.Lib
def Good(c:List UInt8):Prop:=c≠[]/\(decodeL c).2=c.length/\¬ ((decodeL c).1=65533/\(decodeL c).2=1)
theorem getD_take{l m:List UInt8}{k i:Nat}(h:l.take k=m.take k)(hi:i<k):l.getD i 0=m.getD i 0:=by
 have e:∀ x:List UInt8,x.getD i 0=(x.take k).getD i 0:=by
  intro x;simp only[List.getD_eq_getElem?_getD,List.getElem?_take_of_lt hi]
 rw[e l,e m,h]
theorem Zee{l m:List UInt8}(hne:l≠[])(hv:¬ ((decodeL l).1=65533/\(decodeL l).2=1))(hm:l.take (decodeL l).2=m.take (decodeL l).2)(hlen:(decodeL l).2<=m.length):decodeL m=decodeL l:=by
 have hl:0<l.length:=List.length_pos_iff.2 hne;rw[decodeL_N]at hv hm hlen;rw[decodeL_N,decodeL_N];rcases decodeN_shape l.length (l.getD 0 0).toNat (l.getD 1 0).toNat (l.getD 2 0).toNat (l.getD 3 0).toNat with ⟨c,e⟩|⟨c1,c2,c3,cv,e⟩|⟨c1,c2,c3,c4,cv,cs,e⟩|⟨c1,c2,c3,c4,c5,cv,cw,e⟩|e
 ·rw[e]at hm hlen;dsimp only at hm hlen;have e0:=getD_take hm (i:=0) Om;rw[e,<- e0];unfold decodeN;rw[if_pos c]
 ·rw[e]at hm hlen;dsimp only at hm hlen;have e0:=getD_take hm (i:=0) Om;have e1:=getD_take hm (i:=1) Om;rw[e,<- e0,<- e1];unfold decodeN;rw[if_neg Om,if_pos ⟨c1,Om,c3⟩,if_pos Om]
 ·rw[e]at hm hlen;dsimp only at hm hlen;have e0:=getD_take hm (i:=0) Om;have e1:=getD_take hm (i:=1) Om;have e2:=getD_take hm (i:=2) Om;rw[e,<- e0,<- e1,<- e2];have:=decodeN_shape m.length (l.getD 0 0).toNat (l.getD 1 0).toNat (l.getD 2 0).toNat (m.getD 3 0).toNat;unfold decodeN
  (repeat' split)<;>first|rfl|(exfalso;omega)
 ·rw[e]at hm hlen;dsimp only at hm hlen;have e0:=getD_take hm (i:=0) Om;have e1:=getD_take hm (i:=1) Om;have e2:=getD_take hm (i:=2) Om;have e3:=getD_take hm (i:=3) Om;rw[e,<- e0,<- e1,<- e2,<- e3];unfold decodeN
  (repeat' split)<;>first|rfl|(exfalso;omega)
 ·rw[e]at hv;exact absurd ⟨rfl,rfl⟩ hv
theorem Ti{c:List UInt8}(h:Good c)(t:List UInt8):decodeL (c++t)=decodeL c:=by
 refine Zee h.1 h.2.2 ?_ (by rw[h.2.1];simp);rw[h.2.1,List.take_left',List.take_of_length_le (Nl _)];rfl
theorem Ry{l:List UInt8}(hne:l≠[])(hv:¬ ((decodeL l).1=65533/\(decodeL l).2=1)):Good (l.take (decodeL l).2)/\decodeL (l.take (decodeL l).2)=decodeL l:=by
 have hw:=decodeL_width l;have hle:=decodeL_le l hne;have hl:0<l.length:=List.length_pos_iff.2 hne;have e:decodeL (l.take (decodeL l).2)=decodeL l:=Zee hne hv (by rw[List.take_take,Nat.min_self]) (by rw[List.length_take];omega);refine⟨⟨λh=>?_,by rw[e,List.length_take];omega,by rw[e];exact hv⟩,e⟩;have:=congrArg List.length h;rw[List.length_take]at this;simp only[List.length_nil]at this;omega
def chunks:Nat->List UInt8->List (List UInt8)
 | 0,_=>[]
 | n+1,l=>if l=[] then [] else l.take (decodeL l).2::chunks n (l.drop (decodeL l).2)
def Xc(l:List UInt8):List (List UInt8):=chunks l.length l
theorem Kd:∀ (n m:Nat) (l:List UInt8),l.length<=n->l.length<=m->chunks n l=chunks m l
 | 0,0,_,_,_=>rfl
 | 0,m+1,l,hn,_=>by
  have:l=[]:=List.eq_nil_of_length_eq_zero Om;subst this;simp[chunks]
 | n+1,0,l,_,hm=>by
  have:l=[]:=List.eq_nil_of_length_eq_zero Om;subst this;simp[chunks]
 | n+1,m+1,l,hn,hm=>by
  unfold chunks
  split
  ·rfl
  next hne =>
   have hw:=decodeL_width l;have hl:0<l.length:=List.length_pos_iff.2 hne;rw[Kd n m _ (by rw[List.length_drop];omega) (by rw[List.length_drop];omega)]
theorem Fb:Xc []=[]:=rfl
theorem chunk_step(l:List UInt8)(hne:l≠[]):Xc l=l.take (decodeL l).2::Xc (l.drop (decodeL l).2):=by
 have hw:=decodeL_width l;have hl:0<l.length:=List.length_pos_iff.2 hne;unfold Xc;obtain⟨n,hn⟩:∃ n,l.length=n+1:=⟨l.length-1,Om⟩;rw[hn];show (if l=[] then [] else _)=_;rw[if_neg hne,Kd n _ _ (by rw[List.length_drop];omega) (Nl _)]
theorem Ul(l:List UInt8):(Xc l).flatten=l:=by
 have:∀ n (l:List UInt8),l.length<=n->(Xc l).flatten=l:=by
  intro n
  induction n with
  | zero =>
   intro l hl;have:l=[]:=List.eq_nil_of_length_eq_zero Om;subst this;rfl
  | succ n ih =>
   intro l hl;by_cases hne:l=[]
   ·subst hne;rfl
   ·have hw:=decodeL_width l;rw[chunk_step l hne,List.flatten_cons,ih _ (by rw[List.length_drop];omega),List.take_append_drop]
 exact this _ l (Nl _)
theorem Zc7{c:List UInt8}(h:Good c)(t:List UInt8):Xc (c++t)=c::Xc t:=by
 rw[chunk_step _ (by intro e;exact h.1 (List.append_eq_nil_iff.1 e).1),Ti h,h.2.1,List.take_left',List.drop_left']<;>rfl
theorem Oe:∀ cs:List (List UInt8),(∀ c∈cs,Good c)->Xc cs.flatten=cs
 | [],_=>rfl
 | c::cs,h=>by
  rw[List.flatten_cons,Zc7 (h c (by simp)),Oe cs (λx hx=>h x (by simp[hx]))]
theorem valid_good{l:List UInt8}(h:validD l=true):∀ c∈Xc l,Good c:=by
 have:∀ n (l:List UInt8),l.length<=n->validD l=true->∀ c∈Xc l,Good c:=by
  intro n
  induction n with
  | zero =>
   intro l hl _ c hc;have:l=[]:=List.eq_nil_of_length_eq_zero Om;subst this;simp[Fb]at hc
  | succ n ih =>
   intro l hl hv c hc;by_cases hne:l=[]
   ·subst hne;simp[Fb]at hc
   ·have hw:=decodeL_width l;rw[validD_step l hne]at hv
    split at hv
    ·cases hv
    next hg =>
     rw[chunk_step l hne]at hc;rcases List.mem_cons.1 hc with rfl|hc
     ·exact (Ry hne hg).1
     ·exact ih _ (by rw[List.length_drop];omega) hv c hc
 exact this _ l (Nl _) h
theorem good_valid:∀ cs:List (List UInt8),(∀ c∈cs,Good c)->validD cs.flatten=true
 | [],_=>rfl
 | c::cs,h=>by
  have hc:=h c (by simp);rw[List.flatten_cons,validD_step _ (by intro e;exact hc.1 (List.append_eq_nil_iff.1 e).1),Ti hc,if_neg hc.2.2,hc.2.1,List.drop_left',good_valid cs (λx hx=>h x (by simp[hx]))];rfl
theorem Md:∀ (cs ds:List (List UInt8)),(∀ c∈cs,Good c)->(∀ d∈ds,Good d)->cs.flatten <+: ds.flatten->cs <+: ds
 | [],ds,_,_,_=>List.nil_prefix
 | c::cs,[],hc,_,hp=>by
  have h0:=hp.length_le;have h1:=List.length_pos_iff.2 (hc c (by simp)).1;rw[List.flatten_cons,List.length_append]at h0;simp only[List.flatten_nil,List.length_nil]at h0;omega
 | c::cs,d::ds,hc,hd,hp=>by
  have gc:=hc c (by simp);have gd:=hd d (by simp);obtain⟨t,ht⟩:=hp;simp only[List.flatten_cons,List.append_assoc]at ht;have e1:=Ti gc (cs.flatten++t);rw[ht,Ti gd]at e1;have el:d.length=c.length:=by rw[<- gd.2.1,<- gc.2.1,e1]
  have ec:c=d:=by
   have:=congrArg (List.take c.length) ht;rw[List.take_left',<- el,List.take_left']at this
   ·exact this
   ·rfl
   ·rfl
  subst ec;have ht2:=List.append_cancel_left ht;obtain⟨u,hu⟩:=Md cs ds (λx hx=>hc x (by simp[hx])) (λx hx=>hd x (by simp[hx])) ⟨t,ht2⟩;exact⟨u,by rw[List.cons_append,hu]⟩
theorem count_chunk(s:ByteArray):runeCount s=(Xc s.data.toList).length:=by
 have hsz:s.data.toList.length=s.size:=by rw[Array.length_toList];rfl
 have:∀ n pos,s.size-pos<=n->runeCountFrom s n pos=(Xc (s.data.toList.drop pos)).length:=by
  intro n
  induction n with
  | zero =>
   intro pos hp;have:s.data.toList.drop pos=[]:=List.drop_eq_nil_of_le Om;rw[this];rfl
  | succ n ih =>
   intro pos hp;unfold runeCountFrom
   split
   next hlt =>
    have hne:s.data.toList.drop pos≠[]:=by
     intro e;have:=congrArg List.length e;simp[hsz]at this;omega
    have hw:=decodeL_width (s.data.toList.drop pos);rw[chunk_step _ hne,List.length_cons,decodeL_drop,List.drop_drop,ih _ (by rw[decodeL_drop]at hw;omega)];omega
   next hge =>
    have:s.data.toList.drop pos=[]:=List.drop_eq_nil_of_le Om;rw[this];rfl
 have h:=this s.size 0 Om;rw[List.drop_zero]at h;exact h
theorem Znj(t:List UInt8)(c0 c1 c2 c3:UInt8)(h3:128<=c3.toNat)(h2:runeStartB c2=false)(h1:runeStartB c1=false)(h0:runeStartB c0=true)(hd:(decodeL [c0,c1,c2,c3]).2=4) :
  decodeLastL (t++[c0,c1,c2,c3])=decodeL [c0,c1,c2,c3]:=by
 have hne:t++[c0,c1,c2,c3]≠[]:=by simp
 have g1:(t++[c0,c1,c2,c3]).getD (t.length+3) 0=c3:=by simp[List.getD_eq_getElem?_getD]
 have g2:(t++[c0,c1,c2,c3]).getD (t.length+2) 0=c2:=by simp[List.getD_eq_getElem?_getD]
 have g3:(t++[c0,c1,c2,c3]).getD (t.length+1) 0=c1:=by simp[List.getD_eq_getElem?_getD]
 have g4:(t++[c0,c1,c2,c3]).getD t.length 0=c0:=by simp[List.getD_eq_getElem?_getD]
 have hlen:(t++[c0,c1,c2,c3]).length=t.length+4:=by simp
 have hs:lastStart (t++[c0,c1,c2,c3])=t.length:=by
  unfold lastStart;simp only[hlen];rw[(Om:t.length+4-2=t.length+2),(Om:t.length+4-3=t.length+1),(Om:t.length+4-4=t.length),g2,g3,g4,h2,h1,h0];rw[if_neg Om,if_neg (by decide),if_neg Om,if_neg (by decide),if_neg Om,if_pos rfl]
 unfold decodeLastL;rw[if_neg hne,hlen,(Om:t.length+4-1=t.length+3),g1,if_neg Om];simp only[hs,List.drop_left' rfl,hd,if_true]
theorem Gm{c:List UInt8}(h:Good c)(t:List UInt8):decodeLastL (t++c)=decodeL c:=by
 obtain⟨hne,hw,hv⟩:=h;have hl:0<c.length:=List.length_pos_iff.2 hne;have hwl:=hw;rw[decodeL_N]at hw hv;have b64:∀ x:UInt8,x.toNat / 64=2->runeStartB x=false/\128<=x.toNat:=λx hx=>⟨by simp[runeStartB,hx],Om⟩
 rcases decodeN_shape c.length (c.getD 0 0).toNat (c.getD 1 0).toNat (c.getD 2 0).toNat (c.getD 3 0).toNat with ⟨k,e⟩|⟨c1,c2,c3,cv,e⟩|⟨c1,c2,c3,c4,cv,cs,e⟩|⟨c1,c2,c3,c4,c5,cv,cw,e⟩|e
 ·rw[e]at hw;dsimp only at hw;obtain⟨x,rfl⟩:∃ x,c=[x]:=List.length_eq_one_iff.1 hw.symm;have hx:x.toNat<128:=by simpa using k
  rw[decodeLastL_ascii t x hx,decodeL_ascii x [] hx]
 ·rw[e]at hw;dsimp only at hw
  obtain⟨x,y,rfl⟩:∃ x y,c=[x,y]:=by
   match c,hw with
   | [x,y],_=>exact⟨x,y,rfl⟩
  have q1:x.toNat / 32=6:=by simpa using c1
  have q2:y.toNat / 64=2:=by simpa using c3
  exact last2 t x y (b64 y q2).2 (by simp[runeStartB];omega) hwl
 ·rw[e]at hw;dsimp only at hw
  obtain⟨x,y,z,rfl⟩:∃ x y z,c=[x,y,z]:=by
   match c,hw with
   | [x,y,z],_=>exact⟨x,y,z,rfl⟩
  have q1:x.toNat / 16=14:=by simpa using c1
  have q2:y.toNat / 64=2:=by simpa using c3
  have q3:z.toNat / 64=2:=by simpa using c4
  exact last3 t x y z (b64 z q3).2 (b64 y q2).1 (by simp[runeStartB];omega) hwl
 ·rw[e]at hw;dsimp only at hw
  obtain⟨x,y,z,u,rfl⟩:∃ x y z u,c=[x,y,z,u]:=by
   rcases c with _|⟨x,_|⟨y,_|⟨z,_|⟨u,_|⟨v,r⟩⟩⟩⟩⟩<;>first|exact⟨_,_,_,_,rfl⟩|(exfalso;simp only[List.length_cons,List.length_nil]at hw;omega)
  have q1:x.toNat / 8=30:=by simpa using c1
  have q2:y.toNat / 64=2:=by simpa using c3
  have q3:z.toNat / 64=2:=by simpa using c4
  have q4:u.toNat / 64=2:=by simpa using c5
  exact Znj t x y z u (b64 u q4).2 (b64 z q3).1 (b64 y q2).1 (by simp[runeStartB];omega) hwl
 ·rw[e]at hv;exact absurd ⟨rfl,rfl⟩ hv
end UC
end
section
namespace LT
open Go Go.Lib UC
structure Wd where
 lf:Int
 rt:Int
 wt:Int
deriving Inhabited
structure Dk where
 known:List Wd
 unk:List Wd
 find:ByteArray->List (Nat×Nat)
 user:Option (ByteArray->List (Nat×Nat))
 cat:Nat->Nat
 invoke:Nat->Bool
 group:Nat->Bool
 idx:Nat->Nat
 dup:Nat->Nat
 conn:Int->Int->Int
structure Nd where
 id:Int
 pos:Nat
 start:Nat
 fin:Nat
 cls:Nat
 m:Wd
 surf:ByteArray
deriving Inhabited
def zeroM:Wd:=⟨0,0,0⟩
def bp(ds:List (List UInt8))(k:Nat):Nat:=(ds.take k).flatten.length
def Xa(c:List UInt8):Nat:=(decodeL c).1
def Zd(s:ByteArray):List (List UInt8):=Xc s.data.toList
def Wx(cat:Nat->Nat)(c:Nat):Nat->List (List UInt8)->Nat
 | 0,_=>0
 | _+1,[]=>0
 | n+1,x::l=>if cat (Xa x)=c then 1+Wx cat c n l else 0
def Xi(s:ByteArray)(k pos cls:Nat)(m:Wd)(id l:Nat):Nd :=
 ⟨id,pos,k,k+runeCount (s.extract pos (pos+l)),cls,m,s.extract pos (pos+l)⟩
def Uk(D:Dk)(s:ByteArray)(k pos:Nat):List Nd :=
 match D.user with
 | none=>[]
 | some f=>(f (s.extract pos s.size)).map λx=>Xi s k pos 3 zeroM x.1 x.2
def Vf(D:Dk)(s:ByteArray)(k pos:Nat):List Nd:=(D.find (s.extract pos s.size)).map λx=>Xi s k pos 1 (D.known.getD x.1 default) x.1 x.2
def Wy(D:Dk)(ds:List (List UInt8))(k:Nat):Nat :=
 let c:=D.cat (Xa (ds.getD k []))
 k+1+(if D.group c then Wx D.cat c 1023 (ds.drop (k+1)) else 0)
def Ok(D:Dk)(s:ByteArray)(ds:List (List UInt8))(k:Nat):List Nd :=
 let c:=D.cat (Xa (ds.getD k []))
 let e:=Wy D ds k
 (List.range (D.dup c+1)).flatMap λx =>
  (if k+1<e then [Xi s k (bp ds k) 2 (D.unk.getD (D.idx c+x) default) (D.idx c+x) (bp ds (e-1)-bp ds k)] else []) ++
  [Xi s k (bp ds k) 2 (D.unk.getD (D.idx c+x) default) (D.idx c+x) (bp ds e-bp ds k)]
def Xl(D:Dk)(s:ByteArray)(ds:List (List UInt8))(k:Nat):List Nd :=
 if Uk D s k (bp ds k)=[] then
  Vf D s k (bp ds k)++(if Vf D s k (bp ds k)=[]\/D.invoke (D.cat (Xa (ds.getD k [])))=true then Ok D s ds k else [])
 else Uk D s k (bp ds k)
def Qw:Nd:=⟨-1,0,0,0,0,zeroM,.empty⟩
def Od(s:ByteArray):Nd:=⟨-1,s.size,runeCount s,runeCount s+1,0,zeroM,.empty⟩
def V2(D:Dk)(s:ByteArray)(k:Nat):List Nd:=Qw::Od s::(List.range k).flatMap (Xl D s (Zd s))
def lat(D:Dk)(s:ByteArray):List Nd:=V2 D s (runeCount s)
theorem Hk(D:Dk)(s:ByteArray)(k:Nat):V2 D s (k+1)=V2 D s k++Xl D s (Zd s) k:=by
 simp[V2,List.range_succ,List.flatMap_append]
def row(ns:List Nd)(p:Nat):List Nat:=(List.range ns.length).filter λm=>(ns.getD m default).fin==p
theorem Zhj(ns:List Nd)(x:Nd)(p:Nat):row (ns++[x]) p=row ns p++(if x.fin=p then [ns.length] else []):=by
 unfold row;rw[List.length_append,List.length_singleton,List.range_succ,List.filter_append];congr 1
 ·apply List.filter_congr;intro m hm;rw[List.mem_range]at hm;simp only[List.getD_eq_getElem?_getD,List.getElem?_append_left hm]
 ·have e:(ns++[x]).getD ns.length default=x:=by simp[List.getD_eq_getElem?_getD]
  by_cases h:x.fin=p
  ·rw[if_pos h,List.filter_cons,e];simp[h]
  ·rw[if_neg h,List.filter_cons,e];simp[h]
def wrap32(x:Int):Int:=IntKind.i32.wrap x
def ideo:List (Nat×Nat):=[(0x3006,0x3007),(0x3021,0x3029),(0x3038,0x303a),(0x3400,0x4dbf),(0x4e00,0x9fff),(0xf900,0xfa6d),(0xfa70,0xfad9),(0x16fe4,0x16fe4),(0x16ff2,0x16ff6),(0x17000,0x18cd5),(0x18cff,0x18d1e),(0x18d80,0x18df2),(0x1b170,0x1b2fb),(0x20000,0x2a6df),(0x2a700,0x2b81d),(0x2b820,0x2cead),(0x2ceb0,0x2ebe0),(0x2ebf0,0x2ee5d),(0x2f800,0x2fa1d),(0x30000,0x3134a),(0x31350,0x33479)]
def Le(r:Nat):Bool:=ideo.any λx=>decide (x.1<=r/\r<=x.2)
def Gr(s:ByteArray):Bool:=!s.data.toList.isEmpty&&(Zd s).all λc=>Le (Xa c)
def extra(s:ByteArray):Int :=
 if 2<runeCount s/\Gr s=true then (runeCount s-2:Nat)*3000
 else if 7<runeCount s then (runeCount s-7:Nat)*1700
 else 0
structure St where
 cost:Nat->Int
 prev:Nat->Option Nat
def P7{β:Type}(f:Nat->β)(k:Nat)(v:β):Nat->β:=λx=>if x=k then v else f x
def Vl:Int:=2147483647
def total(D:Dk)(mode:Int)(ns:List Nd)(st:St)(t n:Nat):Int :=
 let a:=ns.getD n default
 let b:=ns.getD t default
 let x:=(if a.cls≠3/\b.cls≠3 then D.conn a.m.rt b.m.lf else 0)+b.m.wt+st.cost n+(if mode≠1 then extra a.surf else 0)
 if Vl<x then Vl else x
def relax(D:Dk)(mode:Int)(ns:List Nd)(t:Nat)(st:St)(first:Bool)(n:Nat):St :=
 if first=true\/wrap32 (total D mode ns st t n)<st.cost t then ⟨P7 st.cost t (wrap32 (total D mode ns st t n)),P7 st.prev t (some n)⟩ else st
def Vc(D:Dk)(mode:Int)(ns:List Nd)(t:Nat):St->Bool->List Nat->St
 | st,_,[]=>st
 | st,f,n::l=>Vc D mode ns t (relax D mode ns t st f n) false l
def Wg(D:Dk)(mode:Int)(ns:List Nd)(st:St)(t:Nat):St :=
 if row ns (ns.getD t default).start=[] then ⟨P7 st.cost t Vl,st.prev⟩ else Vc D mode ns t st true (row ns (ns.getD t default).start)
def Di(D:Dk)(mode:Int)(ns:List Nd)(st:St)(p:Nat):St:=(row ns p).foldl (Wg D mode ns) st
def Vs(D:Dk)(mode:Int)(ns:List Nd):Nat->St
 | 0=>⟨λ_=>0,λ_=>none⟩
 | p+1=>if p=0 then ⟨λ_=>0,λ_=>none⟩ else Di D mode ns (Vs D mode ns p) p
def back(prev:Nat->Option Nat):Nat->Nat->List Nat
 | 0,_=>[]
 | f+1,t=>t::(match prev t with|none=>[]|some n=>back prev f n)
structure Tk where
 id:Int
 pos:Nat
 start:Nat
 cls:Nat
 surf:ByteArray
def Zkl(x:Nd):List Tk :=
 ((List.range (Zd x.surf).length).map λi=>(⟨x.id,x.pos+bp (Zd x.surf) i,x.start+i,0,⟨((Zd x.surf).getD i []).toArray⟩⟩:Tk)).reverse
def Znf(mode:Int)(x:Nd):List Tk:=if mode≠3\/x.cls≠2 then [⟨x.id,x.pos,x.start,x.cls,x.surf⟩] else Zkl x
def output(D:Dk)(mode:Int)(s:ByteArray):List Tk :=
 let ns:=lat D s
 (back (Vs D mode ns (runeCount s+2)).prev (runeCount s+2) 1).flatMap λm=>Znf mode (ns.getD m default)
end LT
end
namespace Go.Proofs.YtlfoalomaofejaaGreatDoor
section
open Go.RowKit
def Wc(w:World)(b:Nat)(s:ByteArray)(p:Nat):World:={ w with heap:=w.heap.setIfInBounds b (.stringIter s p) }
theorem Th(w:World)(b:Nat)(s:ByteArray)(p:Nat):Fr (λj=>j=b) w (Wc w b s p) :=
 ⟨rfl,rfl,rfl,by simp[Wc],λk _ hn=>by
  have:b≠k:=λe=>hn e.symm
  simp[Wc,this]⟩
theorem Pi{w:World}{b:Nat}{s:ByteArray}{p:Nat}(p':Nat)(h:w.heap[b]?=some (.stringIter s p)):(Wc w b s p').heap[b]?=some (.stringIter s p'):=by
 have hlt:=(Gs1.1 h).1;simp[Wc,hlt]
theorem Pb{P:Program}{w:World}{b:Nat}{s:ByteArray}{pos:Nat}(h:w.heap[b]?=some (.stringIter s pos))(ty:TypeId)(hp:pos<s.size) :
  (Instr.next (.pointer (some ⟨b,0,none⟩)) true ty).run P w=.ok (.tuple #[.bool true,.int .i64 pos,.int .i32 ((Utf8.decode s pos).1:Int)]) (Wc w b s (pos+(Utf8.decode s pos).2)):=by
 have hr:(Utf8.decode s pos).1<=1114111:=Lib.rune_le s pos;have hw:IntKind.i32.wrap ((Utf8.decode s pos).1:Int)=((Utf8.decode s pos).1:Int):=by rw[IntKind.wrap_i32];omega
 simp[Instr.next,getObj,setObj,Sem.run_bind,Sem.run,h,Result.andThen,hp,goInt,Wc,hw]
theorem Vz{P:Program}{w:World}{b:Nat}{s:ByteArray}{pos:Nat}(h:w.heap[b]?=some (.stringIter s pos))(ty:TypeId)(hp:¬ pos<s.size) :
  (Instr.next (.pointer (some ⟨b,0,none⟩)) true ty).run P w=.ok (.tuple #[.bool false]) w:=by
 simp[Instr.next,getObj,Sem.run,h,hp]
end
end Go.Proofs.YtlfoalomaofejaaGreatDoor
