/- Texts as lists of characters'  -/
import Derived.Lib.MapLaws
import Derived.Lib.ValidLaws
import Derived.Lib.RuneCount
import Derived.Lib.SpaceUEq
import Derived.Test.YtlfoalomaofejaaGreatDoorM1
import Derived.Laws.RangeAny
import Derived.Lib.TrimU
set_option linter.all false
section
set_option maxRecDepth 20000
namespace UC
open Go Go.Lib
def Good(c:List UInt8):Prop:=c≠[]/\(decodeL c).2=c.length/\¬ ((decodeL c).1=65533/\(decodeL c).2=1)
theorem getD_take{l m:List UInt8}{k i:Nat}(h:l.take k=m.take k)(hi:i<k):l.getD i 0=m.getD i 0:=by
 have e:∀ x:List UInt8,x.getD i 0=(x.take k).getD i 0:=by
  intro x;simp only[List.getD_eq_getElem?_getD,List.getElem?_take_of_lt hi]
 rw[e l,e m,h]
theorem Zff{l m:List UInt8}(I:l≠[])(G:¬ ((decodeL l).1=65533/\(decodeL l).2=1))(q:l.take (decodeL l).2=m.take (decodeL l).2)(h:(decodeL l).2<=m.length):decodeL m=decodeL l:=by
 have hl:0<l.length:=List.length_pos_iff.2 I;rw[decodeL_N]at G q h;rw[decodeL_N,decodeL_N];rcases decodeN_shape l.length (l.getD 0 0).toNat (l.getD 1 0).toNat (l.getD 2 0).toNat (l.getD 3 0).toNat with ⟨c,e⟩|⟨L,U,K,M,e⟩|⟨L,U,K,W,M,cs,e⟩|⟨L,U,K,W,Y,M,X,e⟩|e
 ·rw[e]at q h;dsimp only at q h;have z:=getD_take q (i:=0) Om;rw[e,<- z];unfold decodeN;rw[if_pos c]
 ·rw[e]at q h;dsimp only at q h;have z:=getD_take q (i:=0) Om;have A:=getD_take q (i:=1) Om;rw[e,<- z,<- A];unfold decodeN;rw[if_neg Om,if_pos ⟨L,Om,K⟩,if_pos Om]
 ·rw[e]at q h;dsimp only at q h;have z:=getD_take q (i:=0) Om;have A:=getD_take q (i:=1) Om;have J:=getD_take q (i:=2) Om;rw[e,<- z,<- A,<- J];have:=decodeN_shape m.length (l.getD 0 0).toNat (l.getD 1 0).toNat (l.getD 2 0).toNat (m.getD 3 0).toNat;unfold decodeN
  (repeat' split)<;>first|rfl|(exfalso;omega)
 ·rw[e]at q h;dsimp only at q h;have z:=getD_take q (i:=0) Om;have A:=getD_take q (i:=1) Om;have J:=getD_take q (i:=2) Om;have V:=getD_take q (i:=3) Om;rw[e,<- z,<- A,<- J,<- V];unfold decodeN
  (repeat' split)<;>first|rfl|(exfalso;omega)
 ·rw[e]at G;exact absurd ⟨rfl,rfl⟩ G
theorem To{c:List UInt8}(h:Good c)(t:List UInt8):decodeL (c++t)=decodeL c:=by
 refine Zff h.1 h.2.2 ?_ (by rw[h.2.1];simp);rw[h.2.1,List.take_left',List.take_of_length_le (Nl _)];rfl
theorem Ss{l:List UInt8}(q:l≠[])(z:¬ ((decodeL l).1=65533/\(decodeL l).2=1)):Good (l.take (decodeL l).2)/\decodeL (l.take (decodeL l).2)=decodeL l:=by
 have G:=decodeL_width l;have A:=decodeL_le l q;have hl:0<l.length:=List.length_pos_iff.2 q;have e:decodeL (l.take (decodeL l).2)=decodeL l:=Zff q z (by rw[List.take_take,Nat.min_self]) (by rw[List.length_take];omega);refine⟨⟨λh=>?_,by rw[e,List.length_take];omega,by rw[e];exact z⟩,e⟩;have:=congrArg List.length h;rw[List.length_take]at this;simp only[List.length_nil]at this;omega
def chunks:Nat->List UInt8->List (List UInt8)
 | 0,_=>[]
 | n+1,l=>if l=[] then [] else l.take (decodeL l).2::chunks n (l.drop (decodeL l).2)
def Xl(l:List UInt8):List (List UInt8):=chunks l.length l
theorem Ky:∀ (n m:Nat) (l:List UInt8),l.length<=n->l.length<=m->chunks n l=chunks m l
 | 0,0,_,_,_=>rfl
 | 0,m+1,l,hn,_=>by
  have:l=[]:=List.eq_nil_of_length_eq_zero Om;subst this;simp[chunks]
 | n+1,0,l,_,hm=>by
  have:l=[]:=List.eq_nil_of_length_eq_zero Om;subst this;simp[chunks]
 | n+1,m+1,l,hn,hm=>by
  unfold chunks
  split
  ·rfl
  next hne =>
   have h:=decodeL_width l;have hl:0<l.length:=List.length_pos_iff.2 hne;rw[Ky n m _ (by rw[List.length_drop];omega) (by rw[List.length_drop];omega)]
theorem Eb:Xl []=[]:=rfl
theorem chunk_step(l:List UInt8)(h:l≠[]):Xl l=l.take (decodeL l).2::Xl (l.drop (decodeL l).2):=by
 have z:=decodeL_width l;have hl:0<l.length:=List.length_pos_iff.2 h;unfold Xl;obtain⟨n,q⟩:∃ n,l.length=n+1:=⟨l.length-1,Om⟩;rw[q];show (if l=[] then [] else _)=_;rw[if_neg h,Ky n _ _ (by rw[List.length_drop];omega) (Nl _)]
theorem Ut(l:List UInt8):(Xl l).flatten=l:=by
 have:∀ n (l:List UInt8),l.length<=n->(Xl l).flatten=l:=by
  intro n
  induction n with
  | zero =>
   intro l hl;have:l=[]:=List.eq_nil_of_length_eq_zero Om;subst this;rfl
  | succ n ih =>
   intro l hl;by_cases h:l=[]
   ·subst h;rfl
   ·have q:=decodeL_width l;rw[chunk_step l h,List.flatten_cons,ih _ (by rw[List.length_drop];omega),List.take_append_drop]
 exact this _ l (Nl _)
theorem Zdz{c:List UInt8}(h:Good c)(t:List UInt8):Xl (c++t)=c::Xl t:=by
 rw[chunk_step _ (by intro e;exact h.1 (List.append_eq_nil_iff.1 e).1),To h,h.2.1,List.take_left',List.drop_left']<;>rfl
theorem Ou:∀ cs:List (List UInt8),(∀ c∈cs,Good c)->Xl cs.flatten=cs
 | [],_=>rfl
 | c::cs,h=>by
  rw[List.flatten_cons,Zdz (h c (by simp)),Ou cs (λx q=>h x (by simp[q]))]
theorem valid_good{l:List UInt8}(h:validD l=true):∀ c∈Xl l,Good c:=by
 have:∀ n (l:List UInt8),l.length<=n->validD l=true->∀ c∈Xl l,Good c:=by
  intro n
  induction n with
  | zero =>
   intro l hl _ c z;have:l=[]:=List.eq_nil_of_length_eq_zero Om;subst this;simp[Eb]at z
  | succ n ih =>
   intro l hl A c z;by_cases q:l=[]
   ·subst q;simp[Eb]at z
   ·have G:=decodeL_width l;rw[validD_step l q]at A
    split at A
    ·cases A
    next hg =>
     rw[chunk_step l q]at z;rcases List.mem_cons.1 z with rfl|z
     ·exact (Ss q hg).1
     ·exact ih _ (by rw[List.length_drop];omega) A c z
 exact this _ l (Nl _) h
theorem good_valid:∀ cs:List (List UInt8),(∀ c∈cs,Good c)->validD cs.flatten=true
 | [],_=>rfl
 | c::cs,h=>by
  have q:=h c (by simp);rw[List.flatten_cons,validD_step _ (by intro e;exact q.1 (List.append_eq_nil_iff.1 e).1),To q,if_neg q.2.2,q.2.1,List.drop_left',good_valid cs (λx z=>h x (by simp[z]))];rfl
theorem Mu:∀ (cs h:List (List UInt8)),(∀ c∈cs,Good c)->(∀ d∈h,Good d)->cs.flatten <+: h.flatten->cs <+: h
 | [],h,_,_,_=>List.nil_prefix
 | c::cs,[],hc,_,hp=>by
  have G:=hp.length_le;have h1:=List.length_pos_iff.2 (hc c (by simp)).1;rw[List.flatten_cons,List.length_append]at G;simp only[List.flatten_nil,List.length_nil]at G;omega
 | c::cs,d::h,hc,hd,hp=>by
  have J:=hc c (by simp);have I:=hd d (by simp);obtain⟨t,q⟩:=hp;simp only[List.flatten_cons,List.append_assoc]at q;have K:=To J (cs.flatten++t);rw[q,To I]at K;have M:d.length=c.length:=by rw[<- I.2.1,<- J.2.1,K]
  have U:c=d:=by
   have:=congrArg (List.take c.length) q;rw[List.take_left',<- M,List.take_left']at this
   ·exact this
   ·rfl
   ·rfl
  subst U;have A:=List.append_cancel_left q;obtain⟨u,L⟩:=Mu cs h (λx z=>hc x (by simp[z])) (λx z=>hd x (by simp[z])) ⟨t,A⟩;exact⟨u,by rw[List.cons_append,L]⟩
theorem count_chunk(s:ByteArray):runeCount s=(Xl s.data.toList).length:=by
 have q:s.data.toList.length=s.size:=by rw[Array.length_toList];rfl
 have:∀ n pos,s.size-pos<=n->runeCountFrom s n pos=(Xl (s.data.toList.drop pos)).length:=by
  intro n
  induction n with
  | zero =>
   intro pos hp;have:s.data.toList.drop pos=[]:=List.drop_eq_nil_of_le Om;rw[this];rfl
  | succ n ih =>
   intro pos hp;unfold runeCountFrom
   split
   next hlt =>
    have z:s.data.toList.drop pos≠[]:=by
     intro e;have:=congrArg List.length e;simp[q]at this;omega
    have A:=decodeL_width (s.data.toList.drop pos);rw[chunk_step _ z,List.length_cons,decodeL_drop,List.drop_drop,ih _ (by rw[decodeL_drop]at A;omega)];omega
   next hge =>
    have:s.data.toList.drop pos=[]:=List.drop_eq_nil_of_le Om;rw[this];rfl
 have h:=this s.size 0 Om;rw[List.drop_zero]at h;exact h
theorem Zom(t:List UInt8)(A z q h:UInt8)(h3:128<=h.toNat)(h2:runeStartB q=false)(h1:runeStartB z=false)(K:runeStartB A=true)(hd:(decodeL [A,z,q,h]).2=4) :
  decodeLastL (t++[A,z,q,h])=decodeL [A,z,q,h]:=by
 have I:t++[A,z,q,h]≠[]:=by simp
 have M:(t++[A,z,q,h]).getD (t.length+3) 0=h:=by simp[List.getD_eq_getElem?_getD]
 have L:(t++[A,z,q,h]).getD (t.length+2) 0=q:=by simp[List.getD_eq_getElem?_getD]
 have g3:(t++[A,z,q,h]).getD (t.length+1) 0=z:=by simp[List.getD_eq_getElem?_getD]
 have g4:(t++[A,z,q,h]).getD t.length 0=A:=by simp[List.getD_eq_getElem?_getD]
 have G:(t++[A,z,q,h]).length=t.length+4:=by simp
 have J:lastStart (t++[A,z,q,h])=t.length:=by
  unfold lastStart;simp only[G];rw[(Om:t.length+4-2=t.length+2),(Om:t.length+4-3=t.length+1),(Om:t.length+4-4=t.length),L,g3,g4,h2,h1,K];rw[if_neg Om,if_neg (by decide),if_neg Om,if_neg (by decide),if_neg Om,if_pos rfl]
 unfold decodeLastL;rw[if_neg I,G,(Om:t.length+4-1=t.length+3),M,if_neg Om];simp only[J,List.drop_left' rfl,hd,if_true]
theorem Fh{c:List UInt8}(h:Good c)(t:List UInt8):decodeLastL (t++c)=decodeL c:=by
 obtain⟨V,q,U⟩:=h;have hl:0<c.length:=List.length_pos_iff.2 V;have G:=q;rw[decodeL_N]at q U;have A:∀ x:UInt8,x.toNat / 64=2->runeStartB x=false/\128<=x.toNat:=λx L=>⟨by simp[runeStartB,L],Om⟩
 rcases decodeN_shape c.length (c.getD 0 0).toNat (c.getD 1 0).toNat (c.getD 2 0).toNat (c.getD 3 0).toNat with ⟨k,e⟩|⟨K,Z,J,Y,e⟩|⟨K,Z,J,W,Y,cs,e⟩|⟨K,Z,J,W,c5,Y,cw,e⟩|e
 ·rw[e]at q;dsimp only at q;obtain⟨x,rfl⟩:∃ x,c=[x]:=List.length_eq_one_iff.1 q.symm;have L:x.toNat<128:=by simpa using k
  rw[decodeLastL_ascii t x L,decodeL_ascii x [] L]
 ·rw[e]at q;dsimp only at q
  obtain⟨x,y,rfl⟩:∃ x y,c=[x,y]:=by
   match c,q with
   | [x,y],_=>exact⟨x,y,rfl⟩
  have X:x.toNat / 32=6:=by simpa using K
  have I:y.toNat / 64=2:=by simpa using J
  exact last2 t x y (A y I).2 (by simp[runeStartB];omega) G
 ·rw[e]at q;dsimp only at q
  obtain⟨x,y,z,rfl⟩:∃ x y z,c=[x,y,z]:=by
   match c,q with
   | [x,y,z],_=>exact⟨x,y,z,rfl⟩
  have X:x.toNat / 16=14:=by simpa using K
  have I:y.toNat / 64=2:=by simpa using J
  have M:z.toNat / 64=2:=by simpa using W
  exact last3 t x y z (A z M).2 (A y I).1 (by simp[runeStartB];omega) G
 ·rw[e]at q;dsimp only at q
  obtain⟨x,y,z,u,rfl⟩:∃ x y z u,c=[x,y,z,u]:=by
   rcases c with _|⟨x,_|⟨y,_|⟨z,_|⟨u,_|⟨v,r⟩⟩⟩⟩⟩<;>first|exact⟨_,_,_,_,rfl⟩|(exfalso;simp only[List.length_cons,List.length_nil]at q;omega)
  have X:x.toNat / 8=30:=by simpa using K
  have I:y.toNat / 64=2:=by simpa using J
  have M:z.toNat / 64=2:=by simpa using W
  have q4:u.toNat / 64=2:=by simpa using c5
  exact Zom t x y z u (A u q4).2 (A z M).1 (A y I).1 (by simp[runeStartB];omega) G
 ·rw[e]at U;exact absurd ⟨rfl,rfl⟩ U
end UC
end
section
namespace LT
open Go Go.Lib UC
structure Wj where
 lf:Int
 rt:Int
 wt:Int
deriving Inhabited
structure Dk where
 known:List Wj
 unk:List Wj
 find:ByteArray->List (Nat×Nat)
 user:Option (ByteArray->List (Nat×Nat))
 cat:Nat->Nat
 invoke:Nat->Bool
 group:Nat->Bool
 idx:Nat->Nat
 dup:Nat->Nat
 conn:Int->Int->Int
structure Nd where
 id:Int
 pos:Nat
 start:Nat
 fin:Nat
 cls:Nat
 m:Wj
 surf:ByteArray
deriving Inhabited
def zeroM:Wj:=⟨0,0,0⟩
def bp(h:List (List UInt8))(k:Nat):Nat:=(h.take k).flatten.length
def Xi(c:List UInt8):Nat:=(decodeL c).1
def Zd(s:ByteArray):List (List UInt8):=Xl s.data.toList
def Vf(cat:Nat->Nat)(c:Nat):Nat->List (List UInt8)->Nat
 | 0,_=>0
 | _+1,[]=>0
 | n+1,x::l=>if cat (Xi x)=c then 1+Vf cat c n l else 0
def Xq(s:ByteArray)(k pos cls:Nat)(m:Wj)(id l:Nat):Nd :=
 ⟨id,pos,k,k+runeCount (s.extract pos (pos+l)),cls,m,s.extract pos (pos+l)⟩
def Us(D:Dk)(s:ByteArray)(k pos:Nat):List Nd :=
 match D.user with
 | none=>[]
 | some f=>(f (s.extract pos s.size)).map λx=>Xq s k pos 3 zeroM x.1 x.2
def Vl(D:Dk)(s:ByteArray)(k pos:Nat):List Nd:=(D.find (s.extract pos s.size)).map λx=>Xq s k pos 1 (D.known.getD x.1 default) x.1 x.2
def Vg(D:Dk)(h:List (List UInt8))(k:Nat):Nat :=
 let c:=D.cat (Xi (h.getD k []))
 k+1+(if D.group c then Vf D.cat c 1023 (h.drop (k+1)) else 0)
def Oy(D:Dk)(s:ByteArray)(h:List (List UInt8))(k:Nat):List Nd :=
 let c:=D.cat (Xi (h.getD k []))
 let e:=Vg D h k
 (List.range (D.dup c+1)).flatMap λx =>
  (if k+1<e then [Xq s k (bp h k) 2 (D.unk.getD (D.idx c+x) default) (D.idx c+x) (bp h (e-1)-bp h k)] else []) ++
  [Xq s k (bp h k) 2 (D.unk.getD (D.idx c+x) default) (D.idx c+x) (bp h e-bp h k)]
def Xu(D:Dk)(s:ByteArray)(h:List (List UInt8))(k:Nat):List Nd :=
 if Us D s k (bp h k)=[] then
  Vl D s k (bp h k)++(if Vl D s k (bp h k)=[]\/D.invoke (D.cat (Xi (h.getD k [])))=true then Oy D s h k else [])
 else Us D s k (bp h k)
def Qz:Nd:=⟨-1,0,0,0,0,zeroM,.empty⟩
def Ot(s:ByteArray):Nd:=⟨-1,s.size,runeCount s,runeCount s+1,0,zeroM,.empty⟩
def Ua(D:Dk)(s:ByteArray)(k:Nat):List Nd:=Qz::Ot s::(List.range k).flatMap (Xu D s (Zd s))
def lat(D:Dk)(s:ByteArray):List Nd:=Ua D s (runeCount s)
theorem Gi(D:Dk)(s:ByteArray)(k:Nat):Ua D s (k+1)=Ua D s k++Xu D s (Zd s) k:=by
 simp[Ua,List.range_succ,List.flatMap_append]
def row(ns:List Nd)(p:Nat):List Nat:=(List.range ns.length).filter λm=>(ns.getD m default).fin==p
theorem Zil(ns:List Nd)(x:Nd)(p:Nat):row (ns++[x]) p=row ns p++(if x.fin=p then [ns.length] else []):=by
 unfold row;rw[List.length_append,List.length_singleton,List.range_succ,List.filter_append];congr 1
 ·apply List.filter_congr;intro m q;rw[List.mem_range]at q;simp only[List.getD_eq_getElem?_getD,List.getElem?_append_left q]
 ·have e:(ns++[x]).getD ns.length default=x:=by simp[List.getD_eq_getElem?_getD]
  by_cases h:x.fin=p
  ·rw[if_pos h,List.filter_cons,e];simp[h]
  ·rw[if_neg h,List.filter_cons,e];simp[h]
def wrap32(x:Int):Int:=IntKind.i32.wrap x
def ideo:List (Nat×Nat):=[(0x3006,0x3007),(0x3021,0x3029),(0x3038,0x303a),(0x3400,0x4dbf),(0x4e00,0x9fff),(0xf900,0xfa6d),(0xfa70,0xfad9),(0x16fe4,0x16fe4),(0x16ff2,0x16ff6),(0x17000,0x18cd5),(0x18cff,0x18d1e),(0x18d80,0x18df2),(0x1b170,0x1b2fb),(0x20000,0x2a6df),(0x2a700,0x2b81d),(0x2b820,0x2cead),(0x2ceb0,0x2ebe0),(0x2ebf0,0x2ee5d),(0x2f800,0x2fa1d),(0x30000,0x3134a),(0x31350,0x33479)]
def Lv(r:Nat):Bool:=ideo.any λx=>decide (x.1<=r/\r<=x.2)
def Fm(s:ByteArray):Bool:=!s.data.toList.isEmpty&&(Zd s).all λc=>Lv (Xi c)
def extra(s:ByteArray):Int :=
 if 2<runeCount s/\Fm s=true then (runeCount s-2:Nat)*3000
 else if 7<runeCount s then (runeCount s-7:Nat)*1700
 else 0
structure St where
 cost:Nat->Int
 prev:Nat->Option Nat
def Oj{β:Type}(f:Nat->β)(k:Nat)(v:β):Nat->β:=λx=>if x=k then v else f x
def Vq:Int:=2147483647
def total(D:Dk)(h:Int)(ns:List Nd)(st:St)(t n:Nat):Int :=
 let a:=ns.getD n default
 let b:=ns.getD t default
 let x:=(if a.cls≠3/\b.cls≠3 then D.conn a.m.rt b.m.lf else 0)+b.m.wt+st.cost n+(if h≠1 then extra a.surf else 0)
 if Vq<x then Vq else x
def relax(D:Dk)(h:Int)(ns:List Nd)(t:Nat)(st:St)(first:Bool)(n:Nat):St :=
 if first=true\/wrap32 (total D h ns st t n)<st.cost t then ⟨Oj st.cost t (wrap32 (total D h ns st t n)),Oj st.prev t (some n)⟩ else st
def Vi(D:Dk)(h:Int)(ns:List Nd)(t:Nat):St->Bool->List Nat->St
 | st,_,[]=>st
 | st,f,n::l=>Vi D h ns t (relax D h ns t st f n) false l
def Wl(D:Dk)(h:Int)(ns:List Nd)(st:St)(t:Nat):St :=
 if row ns (ns.getD t default).start=[] then ⟨Oj st.cost t Vq,st.prev⟩ else Vi D h ns t st true (row ns (ns.getD t default).start)
def Cl(D:Dk)(h:Int)(ns:List Nd)(st:St)(p:Nat):St:=(row ns p).foldl (Wl D h ns) st
def Vy(D:Dk)(h:Int)(ns:List Nd):Nat->St
 | 0=>⟨λ_=>0,λ_=>none⟩
 | p+1=>if p=0 then ⟨λ_=>0,λ_=>none⟩ else Cl D h ns (Vy D h ns p) p
def back(prev:Nat->Option Nat):Nat->Nat->List Nat
 | 0,_=>[]
 | f+1,t=>t::(match prev t with|none=>[]|some n=>back prev f n)
structure Tk where
 id:Int
 pos:Nat
 start:Nat
 cls:Nat
 surf:ByteArray
def Zll(x:Nd):List Tk :=
 ((List.range (Zd x.surf).length).map λi=>(⟨x.id,x.pos+bp (Zd x.surf) i,x.start+i,0,⟨((Zd x.surf).getD i []).toArray⟩⟩:Tk)).reverse
def Zoj(h:Int)(x:Nd):List Tk:=if h≠3\/x.cls≠2 then [⟨x.id,x.pos,x.start,x.cls,x.surf⟩] else Zll x
def output(D:Dk)(h:Int)(s:ByteArray):List Tk :=
 let ns:=lat D s
 (back (Vy D h ns (runeCount s+2)).prev (runeCount s+2) 1).flatMap λm=>Zoj h (ns.getD m default)
end LT
end
namespace Go.Proofs.YtlfoalomaofejaaGreatDoor
section
open Go.RowKit
def Wi(w:World)(b:Nat)(s:ByteArray)(p:Nat):World:={ w with heap:=w.heap.setIfInBounds b (.stringIter s p) }
theorem Tn(w:World)(b:Nat)(s:ByteArray)(p:Nat):Fr (λj=>j=b) w (Wi w b s p) :=
 ⟨rfl,rfl,rfl,by simp[Wi],λk _ h=>by
  have:b≠k:=λe=>h e.symm
  simp[Wi,this]⟩
theorem Pu{w:World}{b:Nat}{s:ByteArray}{p:Nat}(z:Nat)(h:w.heap[b]?=some (.stringIter s p)):(Wi w b s z).heap[b]?=some (.stringIter s z):=by
 have q:=(Gs1.1 h).1;simp[Wi,q]
theorem Pm{P:Program}{w:World}{b:Nat}{s:ByteArray}{pos:Nat}(h:w.heap[b]?=some (.stringIter s pos))(ty:TypeId)(hp:pos<s.size) :
  (Instr.next (.pointer (some ⟨b,0,none⟩)) true ty).run P w=.ok (.tuple #[.bool true,.int .i64 pos,.int .i32 ((Utf8.decode s pos).1:Int)]) (Wi w b s (pos+(Utf8.decode s pos).2)):=by
 have z:(Utf8.decode s pos).1<=1114111:=Lib.rune_le s pos;have q:IntKind.i32.wrap ((Utf8.decode s pos).1:Int)=((Utf8.decode s pos).1:Int):=by rw[IntKind.wrap_i32];omega
 simp[Instr.next,getObj,setObj,Sem.run_bind,Sem.run,h,Result.andThen,hp,goInt,Wi,q]
theorem V4{P:Program}{w:World}{b:Nat}{s:ByteArray}{pos:Nat}(h:w.heap[b]?=some (.stringIter s pos))(ty:TypeId)(hp:¬ pos<s.size) :
  (Instr.next (.pointer (some ⟨b,0,none⟩)) true ty).run P w=.ok (.tuple #[.bool false]) w:=by
 simp[Instr.next,getObj,Sem.run,h,hp]
end
end Go.Proofs.YtlfoalomaofejaaGreatDoor
