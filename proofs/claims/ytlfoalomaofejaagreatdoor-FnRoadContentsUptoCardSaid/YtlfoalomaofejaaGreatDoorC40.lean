/- What a dictionary in memory te -/
import Derived.Test.YtlfoalomaofejaaGreatDoorC39
import Derived.Laws.CopyOwn
set_option linter.all false
set_option maxRecDepth 100000
set_option maxHeartbeats 2000000
namespace Go.Proofs.YtlfoalomaofejaaGreatDoor
section
open Go.RowKit DT SS TR
theorem M6:∀ {l:List ByteArray} {s:ByteArray} {k:Nat},Xt l s=some k->l[k]?=some s
 | a::l,s,k,h=>by
  unfold Xt at h
  split at h
  ·next e=>cases h;rw[e];rfl
  ·cases hq:Xt l s with
   | none=>rw[hq]at h;cases h
   | some m =>
    rw[hq]at h;cases h;have:=M6 hq;simpa using this
theorem J2:∀ {l:List ByteArray} {s:ByteArray},s∈l->∃ k,Xt l s=some k
 | a::l,s,h=>by
  unfold Xt;by_cases e:a=s
  ·exact⟨0,by rw[if_pos e]⟩
  ·obtain⟨k,hk⟩:=J2 (l:=l) (s:=s) ((List.mem_cons.1 h).resolve_left (λq=>e q.symm));exact⟨k+1,by rw[if_neg e,hk];rfl⟩
theorem Zbk(ns:List ByteArray)(s:ByteArray):ns <+: Xg ns s/\s∈Xg ns s:=by
 unfold Xg
 split
 ·next h =>
  obtain⟨k,hk⟩:=Option.isSome_iff_exists.1 h;exact⟨List.prefix_refl _,List.mem_of_getElem? (M6 hk)⟩
 ·exact⟨List.prefix_append _ _,by simp⟩
theorem Na:∀ (p ns:List ByteArray),ns <+: Wa ns p/\∀ s∈p,s∈Wa ns p
 | [],ns=>⟨List.prefix_refl _,λ_ h=>by cases h⟩
 | a::p,ns=>by
  obtain⟨h1,h2⟩:=Na p (Xg ns a);obtain⟨h3,h4⟩:=Zbk ns a;refine⟨h3.trans h1,λs hs=>?_⟩;rcases List.mem_cons.1 hs with rfl|hs
  ·exact h1.subset h4
  ·exact h2 s hs
theorem L3(ws:List GWord)(i:Nat):∀ k,Z8 ws i <+: Z8 ws (i+k)
 | 0=>List.prefix_refl _
 | k+1=>(L3 ws i k).trans (Na _ _).1
abbrev Kq(ws:List GWord):List ByteArray:=Z8 ws ws.length
theorem Zil(ws:List GWord)(i:Nat)(hi:i<ws.length)(j:Nat)(hj:j<ws[i].pos.length):∃ k,(Uq (Z8 ws i) ws[i].pos)[j]?=some (((k:Nat):Int)+1)/\(Kq ws)[k]?=some ws[i].pos[j]:=by
 obtain⟨k,hk⟩:=J2 ((Na ws[i].pos (Z8 ws i)).2 _ (List.getElem_mem hj));refine⟨k,by simp only[Uq,List.getElem?_map,Ge hj,Option.map_some,hk,Option.getD_some],?_⟩;have h1:=M6 hk;rw[<- Nv ws i hi]at h1;obtain⟨t,ht⟩:=L3 ws (i+1) (ws.length-(i+1));rw[(Om:i+1+(ws.length-(i+1))=ws.length)]at ht;show (Z8 ws ws.length)[k]?=_;rw[<- ht,List.getElem?_append_left (Gl.1 h1).1];exact h1
theorem Gc(ws:List GWord):∀ (k i:Nat) (_:i<k) (hi:i<ws.length),k<=ws.length->(Qt ws k)[i]?=some (Uq (Z8 ws i) ws[i].pos)
 | k+1,i,h,hi,hk=>by
  show (Qt ws k++[Uq (Z8 ws k) (ws.getD k default).pos])[i]?=_;rcases Nat.lt_or_ge i k with q|q
  ·rw[List.getElem?_append_left (by rw[Wk];exact q)];exact Gc ws k i q hi Om
  ·have:i=k:=Om;subst this;rw[List.getElem?_append_right (by rw[Wk];exact Nl _),Wk,Nat.sub_self,List.getD_eq_getElem?_getD,Ge hi];rfl
theorem Es{α:Type}{d:Ty α}{T:TypeId}{v:Value}{xs:List α}{F:Nat->Prop}{w:World}(h:(rowD d T v xs).P F w)(i:Nat)(hi:i<xs.length):∃ g c u,v=.slice (some ⟨g,0,none⟩) xs.length c/\w.cell? ⟨g,i,none⟩=some u/\d.R w F xs[i] [u]:=by
 obtain⟨cs,h0,ho,_,h1⟩:=h;obtain⟨g,c,e,hc,_⟩:=Sl ho i Om;have hic:i<cs.length:=Om
 exact⟨g,c,cs[i],e,by rw[hc];exact Ge hic,d.mono (λ_ _ q=>q.1) (h1 i hi hic)⟩
section
variable{d:Zg}{kd H U:Nat}{w:World}
theorem Zx.pos(h:Zx d kd H U w)(i:Nat)(hi:i<(Zu d).length):∃ P cP Q cQ gl,w.cell? ⟨kd,1,none⟩=some (.slice (some ⟨P,0,none⟩) (Zu d).length cP)/\w.cell? ⟨P,i,none⟩=some (.slice Q (Zu d)[i].pos.length cQ) /\
  w.cell? ⟨kd,2,none⟩=some (.slice (some ⟨gl,0,none⟩) ((Kq (Zu d)).length+1) ((Kq (Zu d)).length+1)) /\
  ∀ j (hj:j<(Zu d)[i].pos.length),∃ b o k,Q=some ⟨b,o,none⟩/\w.cell? ⟨b,o+j,none⟩=some (.int .u16 (((k:Nat):Int)+1))/\k<(Kq (Zu d)).length/\w.cell? ⟨gl,k+1,none⟩=some (.string (Zu d)[i].pos[j]):=by
 obtain⟨mm,cc,mp,gl,g,n,mb,ko,mi,md,mu,vk,v0,v1,v4,v7,v10,v12,v13,u0,u4,h⟩:=h;obtain⟨F0,h0,_⟩:=h.get 0 (by simp[Zq,Z4,Zn]);obtain⟨F,h1,_⟩:=h.get 6 (by simp[Zq,Z4,Zn]);obtain⟨F2,h2,_⟩:=h.get 8 (by simp[Zq,Z4,Zn]);obtain⟨P,cP,u,e,hc,hr⟩:=Es (xs:=Qt (Zu d) (Zu d).length) h1 i (by rw[Wk];exact hi)
 have hx:(Qt (Zu d) (Zu d).length)[i]'(by rw[Wk];exact hi)=Uq (Z8 (Zu d) i) (Zu d)[i].pos:=by
  have:=Gc (Zu d) (Zu d).length i hi hi (Nl _);rw[Ge (by rw[Wk];exact hi)]at this;exact Option.some.inj this
 rw[hx]at hr;have hl:(Uq (Z8 (Zu d) i) (Zu d)[i].pos).length=(Zu d)[i].pos.length:=by simp[Uq]
 obtain⟨Q,cQ,eu,_,_,hat⟩:=hr;rw[hl]at eu;cases eu;rw[Wk]at e;refine⟨P,cP,Q,cQ,gl,by rw[<- e];exact Zb h0.1 1 _ rfl,hc,Zb h0.1 2 _ rfl,λj hj=>?_⟩;obtain⟨k,hk1,hk2⟩:=Zil (Zu d) i hi j hj;have hkl:=(Gl.1 hk2).1;rcases hat.2 with q|⟨b,o,rfl,_,_,hcs⟩
 ·rw[q]at hl;simp at hl;omega
 ·obtain⟨cs,⟨rfl,_⟩,hcc⟩:=hcs j Om;have:=hcc 0 (by simp);have e1:o+j*tId.sz+0=o+j:=by show o+j*1+0=_;omega
  rw[e1]at this;refine⟨b,o,k,rfl,?_,hkl,?_⟩
  ·rw[this];rw[Ge Om]at hk1;show some (Value.int .u16 _)=_;rw[Option.some.inj hk1]
  ·rw[h2.1.cell (Nat.succ_lt_succ hkl)];unfold Zag;rw[if_neg Om,(Om:k.succ-1=k),List.getD_eq_getElem?_getD,hk2];rfl
theorem Zx.conts(h:Zx d kd H U w)(i:Nat)(hi:i<(Zu d).length):∃ C cC R cR,w.cell? ⟨kd,4,none⟩=some (.slice (some ⟨C,0,none⟩) (Zu d).length cC)/\w.cell? ⟨C,i,none⟩=some (.slice R (Zu d)[i].contents.length cR)/\strs.R w (λj=>H<=j/\j<U) (Zu d)[i].contents [.slice R (Zu d)[i].contents.length cR]:=by
 obtain⟨mm,cc,mp,gl,g,n,mb,ko,mi,md,mu,vk,v0,v1,v4,v7,v10,v12,v13,u0,u4,h⟩:=h;obtain⟨F0,h0,_⟩:=h.get 0 (by simp[Zq,Z4,Zn]);obtain⟨F,h1,h2⟩:=h.get 7 (by simp[Zq,Z4,Zn]);obtain⟨C,cC,u,e,hc,hr⟩:=Es (xs:=(Zu d).map GWord.contents) h1 i (by simpa using hi);rw[List.getElem_map]at hr;rw[List.length_map]at e;obtain⟨R,cR,eu,r1⟩:=id hr;cases eu;exact⟨C,cC,R,cR,by rw[<- e];exact Zb h0.1 4 _ rfl,hc,strs.mono (λk _ q=>h2 k q) hr⟩
theorem Zx.unkConts(h:Zx d kd H U w)(i:Nat)(hi:i<(Ze d).length):∃ C cC R cR,w.cell? ⟨kd,18,none⟩=some (.slice (some ⟨C,0,none⟩) (Ze d).length cC)/\w.cell? ⟨C,i,none⟩=some (.slice R (Ze d)[i].contents.length cR)/\strs.R w (λj=>H<=j/\j<U) (Ze d)[i].contents [.slice R (Ze d)[i].contents.length cR]:=by
 obtain⟨mm,cc,mp,gl,g,n,mb,ko,mi,md,mu,vk,v0,v1,v4,v7,v10,v12,v13,u0,u4,h⟩:=h;obtain⟨F0,h0,_⟩:=h.get 0 (by simp[Zq,Z4,Zn]);obtain⟨F,h1,h2⟩:=h.get 19 (by simp[Zq,Z4,Zn]);have hl:=Wj (d:=d);have ht:((Ze d).take d.unknown.length).map GUnk.contents=(Ze d).map GUnk.contents:=by rw[<- hl,List.take_length]
 have h1':(rowD strs 34 u4 ((Ze d).map GUnk.contents)).P F w:=by rw[<- ht];exact h1
 obtain⟨C,cC,u,e,hc,hr⟩:=Es (xs:=(Ze d).map GUnk.contents) h1' i (by simpa using hi);rw[List.getElem_map]at hr;rw[List.length_map]at e;obtain⟨R,cR,eu,r1⟩:=id hr;cases eu;exact⟨C,cC,R,cR,by rw[<- e];exact Zb h0.1 18 _ rfl,hc,strs.mono (λk _ q=>h2 k q) hr⟩
theorem Zx.marks(h:Zx d kd H U w):∃ mm mu,w.cell? ⟨kd,3,none⟩=some (.map (some mm))/\Zz Xx mm (Xo (Zj d.meta0)) w/\w.cell? ⟨kd,17,none⟩=some (.map (some mu))/\Zz Xx mu (Xo (Zj d.unkMeta)) w:=by
 obtain⟨mm,cc,mp,gl,g,n,mb,ko,mi,md,mu,vk,v0,v1,v4,v7,v10,v12,v13,u0,u4,h⟩:=h;obtain⟨F0,h0,_⟩:=h.get 0 (by simp[Zq,Z4,Zn]);obtain⟨F,h1,_⟩:=h.get 1 (by simp[Zq,Z4,Zn]);obtain⟨F2,h2,_⟩:=h.get 18 (by simp[Zq,Z4,Zn]);exact⟨mm,mu,Zb h0.1 3 _ rfl,h1.1,Zb h0.1 17 _ rfl,h2.1⟩
end
end
section
open Go.RowKit DT SS TR LT
def Pg(xs:List ByteArray):ByteArray:=⟨(Lib.join (xs.map (·.data.toList)) [47]).toArray⟩
def wOf(d:Zg)(t:Yw):GWord:=(Zu d).getD t.id.toNat default
def uOf(d:Zg)(t:Yw):GUnk:=(Ze d).getD t.id.toNat default
def rOf(us:List GRec)(t:Yw):GRec:=us.getD t.id.toNat default
def Y2(d:Zg)(us:List GRec)(t:Yw):List ByteArray :=
 if t.cls=1 then (wOf d t).pos++(wOf d t).contents else if t.cls=2 then (uOf d t).contents else if t.cls=3 then [(rOf us t).pos,Pg (rOf us t).tokens,Pg (rOf us t).yomi] else []
structure V8(d:Zg)(us:List GRec)(t:Yw):Prop where
 cls:t.cls<=3
 known:t.cls=1->∃ i:Nat,t.id=i/\i<(Zu d).length
 unk:t.cls=2->∃ i:Nat,t.id=i/\i<(Ze d).length
 user:t.cls=3->∃ i:Nat,t.id=i/\i<us.length
 num:t.index<=1000000000/\(-1<=t.id/\t.id<=1000000)/\t.pos<=1000000000/\t.start<=1000000000/\t.fin<=1000000000/\t.surf.size<=1000
structure Wv(d:Zg)(us:List GRec)(kd:Nat)(pu:Option Addr)(H U:Nat)(w:World):Prop where
 dict:Zx d kd H U w
 user:us≠[]->∃ ku,pu=some ⟨ku,0,none⟩/\Lr ku us H U w
 nw:(Zu d).length<=1000
 few:(∀ u∈Zu d,u.pos.length<=50/\u.contents.length<=1000/\∀ s∈u.pos,s.size<=2147483647)/\(∀ u∈Ze d,u.contents.length<=1000)/\∀ u∈us,1<=u.tokens.length/\u.tokens.length=u.yomi.length/\total u.tokens<=1048576/\total u.yomi<=1048576
 marks:(∀ m∈Zj d.meta0,0<=m.2/\m.2<=100)/\∀ m∈Zj d.unkMeta,0<=m.2/\m.2<=100
theorem Wv.keep{d:Zg}{us:List GRec}{kd:Nat}{pu:Option Addr}{H U:Nat}{w w':World}{S:Nat->Prop}(h:Wv d us kd pu H U w)(f:Fr S w w')(hS:∀ b,H<=b->b<U->¬ S b):Wv d us kd pu H U w' :=
 ⟨h.dict.keep f hS,λe=>by obtain⟨ku,a,b⟩:=h.user e;exact⟨ku,a,b.keep f hS⟩,h.nw,h.few,h.marks⟩
theorem Wv.ext{d:Zg}{us:List GRec}{kd:Nat}{pu:Option Addr}{H U:Nat}{w w':World}(h:Wv d us kd pu H U w)(f:Zf w w'):Wv d us kd pu H U w':=h.keep f (λ_ _ _=>id)
abbrev Znz:TypeId:=137
theorem La(l n:Nat)(hl:l<=n)(hn:n<=2000000)(W:World):(Instr.makeSlice 34 (.int .i64 (l:Int)) (.int .i64 (n:Int))).run Tryz.prog W=.ok (.slice (some ⟨W.heap.size,0,none⟩) l n) (W.alloc (.cells (madeCells #[.string ⟨#[]⟩] n) 9)):=by
 obtain⟨is,his,hs0,hs1,hs2⟩:=info_parts U7;have:=run_make (P:=Tryz.prog) W 34 9 is _ Tryz.underlying34 his hs0 .i64 .i64 l n Om Om (by rw[hs2];omega) Om;rw[hs1]at this;simpa [Value.cells] using this
theorem Px(v:Value)(n:Nat):(madeCells #[v] n).size=n:=by simp[madeCells]
abbrev Zr(kd:Nat)(pu:Option Addr)(t:Yw):Obj:=.cells (Yh kd pu t).toArray Znz
theorem Zdd(kd:Nat)(pu:Option Addr)(t:Yw)(w:World):(w.alloc (Zr kd pu t)).cell? ⟨w.heap.size,1,none⟩=some (.int .i64 t.id)/\(w.alloc (Zr kd pu t)).cell? ⟨w.heap.size,2,none⟩=some (.int .i64 t.cls)/\(w.alloc (Zr kd pu t)).cell? ⟨w.heap.size,7,none⟩=some (.pointer (some ⟨kd,0,none⟩))/\(w.alloc (Zr kd pu t)).cell? ⟨w.heap.size,8,none⟩=some (.pointer pu) :=
 have h:=alloc_at w (Zr kd pu t)
 ⟨cell_of h 1 _ rfl,cell_of h 2 _ rfl,cell_of h 7 _ rfl,cell_of h 8 _ rfl⟩
def KnF(x:GWord)(i kd rb nw nl P cP cQ gl C cC cR:Nat)(Q R:Option Addr)(W:World):Prop :=
 W.cell? ⟨kd,1,none⟩=some (.slice (some ⟨P,0,none⟩) nw cP)/\W.cell? ⟨P,i,none⟩=some (.slice Q x.pos.length cQ)/\W.cell? ⟨kd,2,none⟩=some (.slice (some ⟨gl,0,none⟩) (nl+1) (nl+1))/\W.cell? ⟨kd,4,none⟩=some (.slice (some ⟨C,0,none⟩) nw cC)/\W.cell? ⟨C,i,none⟩=some (.slice R x.contents.length cR) /\
 W.cell? ⟨rb,1,none⟩=some (.int .i64 (i:Int))/\W.cell? ⟨rb,2,none⟩=some (.int .i64 ((1:Nat):Int))/\W.cell? ⟨rb,7,none⟩=some (.pointer (some ⟨kd,0,none⟩))/\rb<W.heap.size/\kd<W.heap.size
theorem KnF.ext{x:GWord}{i kd rb nw nl P cP cQ gl C cC cR:Nat}{Q R:Option Addr}{W W':World}(h:KnF x i kd rb nw nl P cP cQ gl C cC cR Q R W)(f:Zf W W'):KnF x i kd rb nw nl P cP cQ gl C cC cR Q R W':=by
 obtain⟨p1,p2,p3,c1,c2,b1,b2,b7,lb,lk⟩:=h;exact⟨f.cell p1 id,f.cell p2 id,f.cell p3 id,f.cell c1 id,f.cell c2 id,f.cell b1 id,f.cell b2 id,f.cell b7 id,Nat.lt_of_lt_of_le lb f.size,Nat.lt_of_lt_of_le lk f.size⟩
def Zn4(x:GWord)(nl gl:Nat)(Q:Option Addr)(w:World):Prop:=∀ j (hj:j<x.pos.length),∃ b o k,Q=some ⟨b,o,none⟩/\w.cell? ⟨b,o+j,none⟩=some (.int .u16 (((k:Nat):Int)+1))/\k<nl/\w.cell? ⟨gl,k+1,none⟩=some (.string x.pos[j])
theorem Zco{d:Zg}{us:List GRec}{kd H U:Nat}{pu:Option Addr}{w:World}(hD:Wv d us kd pu H U w)(t:Yw)(i:Nat)(hid:t.id=i)(hc:t.cls=1)(hi:i<(Zu d).length) :
  ∃ nw nl P cP Q cQ gl C cC R cR,i<nw/\KnF (Zu d)[i] i kd w.heap.size nw nl P cP cQ gl C cC cR Q R (w.alloc (Zr kd pu t))/\Zn4 (Zu d)[i] nl gl Q w/\strs.R w (λj=>H<=j/\j<U) (Zu d)[i].contents [.slice R (Zu d)[i].contents.length cR] /\
   ((Zu d)[i].pos.length<=50/\(Zu d)[i].contents.length<=1000/\∀ s∈(Zu d)[i].pos,s.size<=2147483647)/\nl<=50000:=by
 obtain⟨P,cP,Q,cQ,gl,p1,p2,p3,p4⟩:=hD.dict.pos i hi;obtain⟨C,cC,R,cR,c1,c2,c3⟩:=hD.dict.conts i hi;obtain⟨b1,b2,b7,_⟩:=Zdd kd pu t w;rw[hid]at b1;rw[hc]at b2;have X:Zf w (w.alloc (Zr kd pu t)):=(Fl w).alloc _;exact⟨_,_,P,cP,Q,cQ,gl,C,cC,R,cR,hi,⟨X.cell p1 id,X.cell p2 id,X.cell p3 id,X.cell c1 id,X.cell c2 id,b1,b2,b7,lt_of_cell b1,Nat.lt_of_lt_of_le (lt_of_cell p1) X.size⟩,p4,c3,hD.few.1 _ (List.getElem_mem hi),Nt (Pc _ (λu hu=>(hD.few.1 u hu).1) _ (Nl _)) (by have:=hD.nw;omega)⟩
theorem Zcv(d:Zg)(us:List GRec)(t:Yw)(i:Nat)(hid:t.id=i)(hc:t.cls=1)(hi:i<(Zu d).length)(kd H U:Nat)(pu:Option Addr)(w:World)(hD:Wv d us kd pu H U w) :
  Calls Tryz.prog 70 #[.agg (Yh kd pu t).toArray] w λe w'=>∃ v,e=.returned v/\strs.R w' (λj=>w.heap.size<=j) ((Zu d)[i].pos++(Zu d)[i].contents) [v]/\Zf w w':=by
 have mixed:Tryz.prog.follows .mixedOrders=true:=Kr
 obtain⟨nw,nl,P,cP,Q,cQ,gl,C,cC,R,cR,hiw,K0,hP,hC,hfew,_⟩:=Zco hD t i hid hc hi;generalize (Zu d)[i]=x at *;clear hD hi;obtain⟨idx,id,cls,pos,st,fi,sf⟩:=t;simp only at hid hc;subst hid hc;obtain⟨rb,hrb⟩:∃ rb,rb=w.heap.size:=⟨_,rfl⟩;have X0:Zf w (w.alloc (Zr kd pu ⟨idx,i,1,pos,st,fi,sf⟩)):=(Fl _).alloc _;rw[<- hrb]at K0;go_enter Tryz.func70,Tryz.ntmps70
 go_upto_region 1 with fail
 have HP:=Hd hP;have HC:=Hd hC;have HX:=Hd X0;rw[<- hrb];have HRB:=Hd hrb;clear hP hC hrb X0;generalize w.alloc _=W at *;obtain⟨p1,p2,p3,c1,c2,b1,b2,b7,lb,lk⟩:=id K0;have HF:Hid (∀ W',Zf W W'->KnF x i kd rb nw nl P cP cQ gl C cC cR Q R W'):=λW' f=>K0.ext f
 clear K0;have hiz:(i:Int)<(nw:Int):=Om
 have hi0:(0:Int)<=(i:Int):=Om
 go_upto_region 5 with fail
 go_quiet (fail)
 clear p1 p2 p3 c1 c2 b1 b2 b7 lb lk;have hsum:IntKind.i64.wrap ((x.pos.length:Int)+(x.contents.length:Int))=(x.pos.length:Int)+(x.contents.length:Int):=by rw[IntKind.wrap_i64];omega
 have hmk:∀ W:World,(Instr.makeSlice 34 (.int .i64 0) (.int .i64 ((x.pos.length:Int)+(x.contents.length:Int)))).run Tryz.prog W=.ok (.slice (some ⟨W.heap.size,0,none⟩) 0 (x.pos.length+x.contents.length)) (W.alloc (.cells (madeCells #[.string ⟨#[]⟩] (x.pos.length+x.contents.length)) 9)):=λW=>by
  have:=La 0 (x.pos.length+x.contents.length) Om Om W;simpa using this
 have F1:Zf W (W.drewN nq):=(Fl W).drewN nq;obtain⟨p1,p2,p3,c1,c2,b1,b2,b7,lb,lk⟩:=HF.out _ F1;have HF1:=Hd F1;clear F1;generalize W.drewN nq=W1 at *;go_upto_region 6 with fail
 go_still_tail 13,Kr
 change wpList _ _ _ _ _ W1.drew;go_wp2_with fail
 obtain⟨N,hN⟩:∃ N,N=W1.heap.size:=⟨_,rfl⟩;rw[<- hN];have F2:Zf W (W1.alloc (.cells (madeCells #[.string ⟨#[]⟩] (x.pos.length+x.contents.length)) 9)).drew:=(HF1.out.alloc _).drew;have K2:(W1.alloc (.cells (madeCells #[.string ⟨#[]⟩] (x.pos.length+x.contents.length)) 9)).drew.heap[N]?=some (.cells (madeCells #[.string ⟨#[]⟩] (x.pos.length+x.contents.length)) 9 (0,0)):=alloc_at' _ _ hN;have hNw:w.heap.size<=N:=by rw[hN];exact (HX.out.trans HF1.out (λ_ _ e=>e)).size
 obtain⟨p1,p2,p3,c1,c2,b1,b2,b7,lb,lk⟩:=HF.out _ F2;have hNW:W.heap.size<=N:=by have:=HF1.out.size;omega
 clear hN hsum hmk;generalize (W1.alloc _).drew=W2 at *;go_quiet (fail)
 have F3:Zf W (W2.drewN nq):=F2.drewN nq;have K3:(W2.drewN nq).heap[N]?=some (.cells (madeCells #[.string ⟨#[]⟩] (x.pos.length+x.contents.length)) 9 (0,0)):=K2;have HF3:=Hd (Ai1 F3 K3);clear F2 K2 F3 K3 p1 p2 p3 c1 c2 b1 b2 b7 lb lk;generalize W2.drewN nq=W3 at *;obtain⟨np,hnp⟩:∃ n,n=x.pos.length:=⟨_,rfl⟩;have HNP:=Hd hnp;rw[<- hnp];clear hnp;go_wp2_with fail
 have hnp:np<=50:=by rw[HNP.out];exact hfew.1
 have hcl:=hfew.2.1;have HSZ:=Hd hfew.2.2;clear hfew
 go_loopg [4,56] np (λg1 v4 v56 wr=>∃ (j:Nat) (u:Value),v4=u/\v56=.int .i64 (j:Int)/\j<=np/\np<=j+g1/\Hid (RowK Ty.str 9 u (x.pos.take j) N wr/\Zf W wr)/\N<=wr.heap.size)
 case atStart=>exact⟨0,_,rfl,rfl,Om,Om,⟨Zd0 rfl HF3.out.2 (by rw[Px];have:=HNP.out;omega) Om (Nl _),HF3.out.1⟩,Nat.le_of_lt (Gs1.1 HF3.out.2).1⟩
 case round =>
  obtain⟨j,u,rfl,rfl,hj,hg,HR,hNr⟩:=hrel;have HL:=Hd HR.out.1.low;obtain⟨p1,p2,p3,c1,c2,b1,b2,b7,lb,lk⟩:=HF.out _ HR.out.2;by_cases hlt:j<np
  ·have hlz:(j:Int)<(np:Int):=Om;have hz0:(0:Int)<=(j:Int):=Om;obtain⟨b,o,k,rfl,hq,hk,hn⟩:=HP.out j (by rw[<- HNP.out];exact hlt);have XW:=HX.out.trans HR.out.2 (λ_ _ e=>e);have hq:=XW.cell hq id;have hn:=XW.cell hn id;have hk1:(0:Int)<=(k:Int)+1:=Om;have hk2:(k:Int)+1<(nl:Int)+1:=Om;have hk3:((k:Int)+1).toNat=k+1:=Om;have HT:Hid (x.pos.take (j+1)=x.pos.take j++[x.pos[j]'(by rw[<- HNP.out];exact hlt)]):=List.take_succ_eq_append_getElem (by rw[<- HNP.out];exact hlt);have HLQ:=Hd XW.size;have hsz:=HSZ.out _ (List.getElem_mem (show j<x.pos.length by rw[<- HNP.out];exact hlt));generalize x.pos[j]'(by rw[<- HNP.out];exact hlt)=s at *;clear XW
   go_wp2_with (first
    | (at_builtin;refine RowK.lst (v:=u4) rfl _ _ 34 rfl s [.string s] 16 ⟨wr.heap.size,0,none⟩ Tryz.underlying34 N6 (by decide) Om rfl rfl (HR.out.1.ext ((Fl wr).alloc _)) (by rw[List.length_take];omega) (by simp;omega) (Z0 _ _) ⟨rfl,Om⟩ ?_;intro v' w6 hR6 hf6 ha6;have H6:=Hd (Ai1 hR6 hf6);clear hR6 hf6 ha6)
    | fail)
   go_roundg (np-(j+1))
   case measure=>omega
   case rel=>exact⟨j+1,v',rfl,by go_num,Om,Om,⟨by rw[HT.out];exact H6.out.1,(HR.out.2.alloc _).trans H6.out.2 (λk hk e=>by have:=(HL.out k e).1;omega)⟩,by have:=H6.out.2.size;rw[Za]at this;omega⟩
  ·obtain rfl:j=np:=Om
   have hown:=HR.out.1.texts;have hjl:j=x.pos.length:=HNP.out;rw[hjl,List.take_length]at hown;have HO:=Hd hown;have HR2:=Hd HR.out.2;have HCW:=Hd (strs.ext HC.out (HX.out.trans HR.out.2 (λ_ _ e=>e)));clear hown HR HNP;go_upto_region 13 with fail
   go_still_tail 10,Kr
   change wpList _ _ _ _ _ wr.drew;obtain⟨is,his,hs0,hs1,hs2⟩:=info_parts U7;have HE:Hid ((x.pos++x.contents).map Value.string=x.pos.map Value.string++x.contents.map Value.string):=List.map_append
   have HSS:Hid (∀ s∈x.pos++x.contents,s.size<=9223372036854775807):=λs hs=>by
    rcases List.mem_append.1 hs with q|q
    ·have:=HSZ.out s q;omega
    ·exact Tc HCW.out s q
   have hnw:w.heap.size<=wr.heap.size:=Om
   cases R with
   | none =>
    have HC0:Hid (x.contents=[]):=Mv HCW.out;obtain rfl:cR=0:=Mx HCW.out
    go_wp2_with (first
     | (at_builtin;refine Ki rfl _ _ 34 rfl N 9 is 1 Tryz.underlying34 his u4 _ _ rfl HO.out (by show Value.slice none x.contents.length 0=_;rw[HC0.out];rfl) ?_)
     | fail)
    first|go_ret|go_ret2
    refine⟨_,rfl,?_,(HX.out.trans HR2.out (λ_ _ e=>e)).drew⟩;have:=Wq (xs:=x.pos) (B:=N) (w:=wr.drew) (v:=u4) (show World.ownsRow wr.drew N _ 1 u4 x.pos.length _ from HO.out) (λs hs=>HSS.out s (by simp[hs]));rw[HC0.out,List.append_nil];exact strs.mono (λk _ q=>Om) this
   | some ra =>
    obtain⟨ab,ao,ak⟩:=ra
    have hcl2:∀ j v,(x.contents.map Value.string)[j]?=some v->wr.drew.cell? (Addr.add ⟨ab,ao,ak⟩ j)=some v:=λj v hv=>by
     have hne:x.contents≠[]:=λe=>by rw[e]at hv;simp at hv
     obtain⟨b,o,e,_,hcc⟩:=Y9 HCW.out hne;cases e;exact hcc j v hv
    go_wp2_with (first
     | (at_builtin;refine wpList_append_own_at _ rfl _ _ 34 rfl N 9 is _ 1 16 Tryz.underlying34 his hs0 hs1 hs2 rfl (by decide) u4 x.pos.length _ rfl HO.out ⟨ab,ao,ak⟩ x.contents.length cR (x.contents.map Value.string) rfl (by simp) hcl2 (by intro y hy;obtain⟨z,_,rfl⟩:=List.mem_map.1 hy;rfl) (by unfold maxLen;omega) Om hNr ?_;intro v' w7 hown' hgrow hnil' hat;have H7:=Hd (Ai1 hown' hgrow);clear hown' hgrow hnil' hat)
     | fail)
    first|go_ret|go_ret2
    have F7:Fr (λk=>u4.ownBlock=some k) wr.drew w7:=(Fl _).grown H7.out.2 (λk e _=>e);refine⟨_,rfl,?_,((HX.out.trans HR2.out (λ_ _ e=>e)).drew).trans F7 (λk hk e=>by have:=(HL.out k e).1;omega)⟩;have h7:=H7.out.1;rw[<- HE.out,show x.pos.length+x.contents.length=(x.pos++x.contents).length from List.length_append.symm]at h7;exact strs.mono (λk _ q=>Om) (Wq h7 HSS.out)
end
section
open Go.RowKit DT SS TR LT
def UnF(x:GUnk)(i kd rb nw C cC cR:Nat)(R:Option Addr)(W:World):Prop :=
 W.cell? ⟨kd,18,none⟩=some (.slice (some ⟨C,0,none⟩) nw cC)/\W.cell? ⟨C,i,none⟩=some (.slice R x.contents.length cR) /\
 W.cell? ⟨rb,1,none⟩=some (.int .i64 (i:Int))/\W.cell? ⟨rb,2,none⟩=some (.int .i64 ((2:Nat):Int))/\W.cell? ⟨rb,7,none⟩=some (.pointer (some ⟨kd,0,none⟩))/\rb<W.heap.size/\kd<W.heap.size
theorem UnF.ext{x:GUnk}{i kd rb nw C cC cR:Nat}{R:Option Addr}{W W':World}(h:UnF x i kd rb nw C cC cR R W)(f:Zf W W'):UnF x i kd rb nw C cC cR R W':=by
 obtain⟨c1,c2,b1,b2,b7,lb,lk⟩:=h;exact⟨f.cell c1 id,f.cell c2 id,f.cell b1 id,f.cell b2 id,f.cell b7 id,Nat.lt_of_lt_of_le lb f.size,Nat.lt_of_lt_of_le lk f.size⟩
theorem Zbv{d:Zg}{us:List GRec}{kd H U:Nat}{pu:Option Addr}{w:World}(hD:Wv d us kd pu H U w)(t:Yw)(i:Nat)(hid:t.id=i)(hc:t.cls=2)(hi:i<(Ze d).length) :
  ∃ nw C cC R cR,i<nw/\UnF (Ze d)[i] i kd w.heap.size nw C cC cR R (w.alloc (Zr kd pu t))/\strs.R w (λj=>H<=j/\j<U) (Ze d)[i].contents [.slice R (Ze d)[i].contents.length cR]/\(Ze d)[i].contents.length<=1000:=by
 obtain⟨C,cC,R,cR,c1,c2,c3⟩:=hD.dict.unkConts i hi;obtain⟨b1,b2,b7,_⟩:=Zdd kd pu t w;rw[hid]at b1;rw[hc]at b2;have X:Zf w (w.alloc (Zr kd pu t)):=(Fl w).alloc _;exact⟨_,C,cC,R,cR,hi,⟨X.cell c1 id,X.cell c2 id,b1,b2,b7,lt_of_cell b1,Nat.lt_of_lt_of_le (lt_of_cell c1) X.size⟩,c3,hD.few.2.1 _ (List.getElem_mem hi)⟩
theorem Ot{α:Type}(cur cs:List α)(h:cur.length=cs.length):splice cur 0 cs=cs:=by
 unfold splice;simp[h]
theorem Zi4(d:Zg)(us:List GRec)(t:Yw)(i:Nat)(hid:t.id=i)(hc:t.cls=2)(hi:i<(Ze d).length)(kd H U:Nat)(pu:Option Addr)(w:World)(hD:Wv d us kd pu H U w) :
  Calls Tryz.prog 70 #[.agg (Yh kd pu t).toArray] w λe w'=>∃ v,e=.returned v/\strs.R w' (λj=>w.heap.size<=j) (Ze d)[i].contents [v]/\Zf w w':=by
 have mixed:Tryz.prog.follows .mixedOrders=true:=Kr
 obtain⟨nw,C,cC,R,cR,hiw,K0,hC,hcl⟩:=Zbv hD t i hid hc hi;generalize (Ze d)[i]=x at *;clear hD hi;obtain⟨idx,id,cls,pos,st,fi,sf⟩:=t;simp only at hid hc;subst hid hc;obtain⟨rb,hrb⟩:∃ rb,rb=w.heap.size:=⟨_,rfl⟩;have X0:Zf w (w.alloc (Zr kd pu ⟨idx,i,2,pos,st,fi,sf⟩)):=(Fl _).alloc _;rw[<- hrb]at K0;go_enter Tryz.func70,Tryz.ntmps70
 go_upto_region 1 with fail
 have HC:=Hd (strs.ext hC X0);have HX:=Hd X0;rw[<- hrb];clear hC hrb X0;generalize w.alloc _=W at *;obtain⟨c1,c2,b1,b2,b7,lb,lk⟩:=id K0;have HF:Hid (∀ W',Zf W W'->UnF x i kd rb nw C cC cR R W'):=λW' f=>K0.ext f
 clear K0;have hiz:(i:Int)<(nw:Int):=Om
 have hi0:(0:Int)<=(i:Int):=Om
 have hmk:∀ W:World,(Instr.makeSlice 34 (.int .i64 (x.contents.length:Int)) (.int .i64 (x.contents.length:Int))).run Tryz.prog W=.ok (.slice (some ⟨W.heap.size,0,none⟩) x.contents.length x.contents.length) (W.alloc (.cells (madeCells #[.string ⟨#[]⟩] x.contents.length) 9)):=λW=>La x.contents.length x.contents.length (Nl _) Om W
 go_upto_region 16 with fail
 go_still_tail 11,Kr
 change wpList _ _ _ _ _ W.drew;go_wp2_with fail
 obtain⟨N,hN⟩:∃ N,N=W.heap.size:=⟨_,rfl⟩;rw[<- hN];have F2:Zf W (W.alloc (.cells (madeCells #[.string ⟨#[]⟩] x.contents.length) 9)).drew:=((Fl W).alloc _).drew;have K2:(W.alloc (.cells (madeCells #[.string ⟨#[]⟩] x.contents.length) 9)).drew.heap[N]?=some (.cells (madeCells #[.string ⟨#[]⟩] x.contents.length) 9 (0,0)):=alloc_at' _ _ hN;have hNw:w.heap.size<=N:=by rw[hN];exact HX.out.size
 have HNW:=Hd hN;clear hN hmk c1 c2 b1 b2 b7 lb lk;obtain⟨c1,c2,b1,b2,b7,lb,lk⟩:=HF.out _ F2;have HK2:=Hd (Ai1 F2 (Ai1 K2 (strs.ext HC.out F2)));clear F2 K2;generalize (W.alloc _).drew=W2 at *
 go_still_tail 11,Kr
 change wpList _ _ _ _ _ W2.drew
 have hsp:(0:Nat)<((x.contents.map Value.string)).length->some (⟨N,0,none⟩:Addr)=some ⟨N,0,none⟩/\∃ ad,R=some ad/\∀ j v,(x.contents.map Value.string)[j]?=some v->W2.drew.cell? (ad.add j)=some v:=λh0=>by
  obtain⟨b,o,e,_,hcc⟩:=Y9 HK2.out.2.2 (λe=>by rw[e]at h0;simp at h0);exact⟨rfl,_,e,hcc⟩
 refine wpList_copy_splice rfl _ _ 34 34 rfl 9 Tryz.underlying34 Kr (some ⟨N,0,none⟩) R x.contents.length x.contents.length x.contents.length cR rfl rfl N 0 (madeCells #[.string ⟨#[]⟩] x.contents.length).toList 9 HK2.out.2.1 (x.contents.map Value.string) (by simp) hsp (by rw[List.length_map];have:=Px (.string ⟨#[]⟩) x.contents.length;simp[madeCells]) (by intro y hy;obtain⟨z,_,rfl⟩:=List.mem_map.1 hy;rfl) N W2.drew (Below.refl _ _) (Nl _) ?_;intro w7 h7 hb7;rw[Ot _ _ (by simp[madeCells])]at h7;clear hsp c1 c2 b1 b2 b7 lb lk HF hiz hi0;have HX2:=Hd (show Zf w w7 from Fr.of_below (((Fr.below HX.out).trans ((Fr.below HK2.out.1).mono HX.out.size)).drew.trans (hb7.mono hNw)));have HE:=Hd (strs.mono (O':=λj=>w.heap.size<=j) (λj _ hj=>Nt hNw hj) (Ub h7.out rfl (λs hs=>Tc HK2.out.2.2 s hs) Om));clear HK2 HC HX h7 hb7;rw[List.length_map];go_wp2_with fail
 first|go_ret|go_ret2
 exact⟨_,rfl,HE.out,HX2.out⟩
end
section
open Go.RowKit DT SS TR LT
theorem Z5{a b c:World}(f:Zf a b)(g:Zf b c):Zf a c:=f.trans g (λ_ _ e=>e)
def UsF(x:GRec)(i ku rb n C oC cC ca cb:Nat)(A B:Option Addr)(W:World):Prop :=
 W.cell? ⟨ku,2,none⟩=some (.slice (some ⟨C,oC,none⟩) n cC)/\W.cell? ⟨C,oC+i*3,none⟩=some (.slice A x.tokens.length ca)/\W.cell? ⟨C,oC+i*3+1,none⟩=some (.slice B x.yomi.length cb)/\W.cell? ⟨C,oC+i*3+2,none⟩=some (.string x.pos) /\
 W.cell? ⟨rb,1,none⟩=some (.int .i64 (i:Int))/\W.cell? ⟨rb,2,none⟩=some (.int .i64 ((3:Nat):Int))/\W.cell? ⟨rb,8,none⟩=some (.pointer (some ⟨ku,0,none⟩))/\rb<W.heap.size/\ku<W.heap.size
theorem UsF.ext{x:GRec}{i ku rb n C oC cC ca cb:Nat}{A B:Option Addr}{W W':World}(h:UsF x i ku rb n C oC cC ca cb A B W)(f:Zf W W'):UsF x i ku rb n C oC cC ca cb A B W':=by
 obtain⟨c1,c2,c3,c4,b1,b2,b8,lb,lk⟩:=h;exact⟨f.cell c1 id,f.cell c2 id,f.cell c3 id,f.cell c4 id,f.cell b1 id,f.cell b2 id,f.cell b8 id,Nat.lt_of_lt_of_le lb f.size,Nat.lt_of_lt_of_le lk f.size⟩
theorem Fw{d:Zg}{us:List GRec}{kd H U:Nat}{pu:Option Addr}{w:World}(hD:Wv d us kd pu H U w)(t:Yw)(i:Nat)(hid:t.id=i)(hc:t.cls=3)(hi:i<us.length) :
  ∃ ku n C oC cC ca cb A B,pu=some ⟨ku,0,none⟩/\i<n/\UsF us[i] i ku w.heap.size n C oC cC ca cb A B (w.alloc (Zr kd pu t))/\strs.R w (λj=>H<=j/\j<U) us[i].tokens [.slice A us[i].tokens.length ca]/\strs.R w (λj=>H<=j/\j<U) us[i].yomi [.slice B us[i].yomi.length cb] /\
   (1<=us[i].tokens.length/\us[i].tokens.length=us[i].yomi.length/\total us[i].tokens<=1048576/\total us[i].yomi<=1048576)/\us[i].pos.size<=9223372036854775807:=by
 obtain⟨ku,hp,h0,v,h1,A,c,hv,h2,h3,h4,h5⟩:=hD.user (λe=>by rw[e]at hi;simp at hi);cases hv;rcases h5 with rfl|⟨C,oC,rfl,_,_,hcc⟩
 ·simp at hi
 obtain⟨cs,hcs,hat⟩:=hcc i hi;obtain⟨c0,c1',rfl,hA,c2',c3',rfl,hB,hS⟩:=hcs;obtain⟨vA,rfl⟩:=Mw hA;obtain⟨vB,rfl⟩:=Mw hB;obtain⟨rfl,hsz⟩:=hS;obtain⟨A',ca,rfl⟩:=Yq hA;obtain⟨B',cb,rfl⟩:=Yq hB;have e0:=hat 0 (by simp);have e1:=hat 1 (by simp);have e2:=hat 2 (by simp);obtain⟨b1,b2,_,b8⟩:=Zdd kd pu t w;rw[hid]at b1;rw[hc]at b2;rw[hp]at b8;have X:Zf w (w.alloc (Zr kd pu t)):=(Fl w).alloc _;subst hp;exact⟨ku,_,C,oC,c,ca,cb,A',B',rfl,hi,⟨X.cell h1 id,X.cell e0 id,X.cell e1 id,X.cell e2 id,b1,b2,b8,lt_of_cell b1,Nat.lt_of_lt_of_le (lt_of_cell h1) X.size⟩,hA,hB,hD.few.2.2 _ (List.getElem_mem hi),hsz⟩
theorem Zd3:∀ (xs:List ByteArray) (sep:List UInt8),sep.length<=1->(Lib.join (xs.map (·.data.toList)) sep).length<=total xs:=by
 intro xs
 induction xs with
 | nil=>intro sep _;simp[Lib.join,total]
 | cons a l ih =>
  intro sep hs;have:=ih sep hs
  cases l with
  | nil=>simp[Lib.join,List.intercalate,total]
  | cons b m =>
   simp only[Lib.join,List.intercalate,List.map_cons,List.intersperse,List.flatten_cons,List.length_append,total,List.sum_cons]at this⊢;have e:a.data.toList.length=a.size:=(by simp);omega
theorem J9(xs:List ByteArray):(Pg xs).size<=total xs:=by
 have:=Zd3 xs [47] (by decide);simpa [Pg,ByteArray.size] using this
theorem Mu(xs:List ByteArray):xs.length<=total xs:=by
 induction xs with
 | nil=>simp
 | cons a l ih=>unfold total at *;simp only[List.length_cons,List.map_cons,List.sum_cons];omega
theorem P0{O:Nat->Prop}(xs:List ByteArray)(A:Option Addr)(c:Nat)(w:World)(h:strs.R w O xs [.slice A xs.length c])(h1:1<=xs.length)(ht:total xs<=1048576) :
  Calls Tryz.prog 119 #[.slice A xs.length c,.string ⟨#[47]⟩] w λe w'=>e=.returned (.string (Pg xs))/\Zf w w':=by
 obtain⟨b,o,rfl,hb,hcc⟩:=Y9 h (λe=>by rw[e]at h1;simp at h1);obtain⟨_,_,e,hcap,_⟩:=h;cases e;have ht':=Mu xs;refine Zam b o c xs ⟨#[47]⟩ w (λj x hj=>?_) hb Om hcap (Nt (Zd3 xs _ (by decide)) Om);have:=hcc j (.string x) (by rw[List.getElem?_map,hj];rfl);rwa[Addr.add_lit]at this
theorem Zf7(d:Zg)(us:List GRec)(t:Yw)(i:Nat)(hid:t.id=i)(hc:t.cls=3)(hi:i<us.length)(kd H U:Nat)(pu:Option Addr)(w:World)(hD:Wv d us kd pu H U w) :
  Calls Tryz.prog 70 #[.agg (Yh kd pu t).toArray] w λe w'=>∃ v,e=.returned v/\strs.R w' (λj=>w.heap.size<=j) [us[i].pos,Pg us[i].tokens,Pg us[i].yomi] [v]/\Zf w w':=by
 have mixed:Tryz.prog.follows .mixedOrders=true:=Kr
 obtain⟨ku,n,C,oC,cC,ca,cb,A,B,rfl,hin,K0,hA,hB,hfew,hps⟩:=Fw hD t i hid hc hi;generalize us[i]=x at *;clear hD hi;obtain⟨idx,id,cls,pos,st,fi,sf⟩:=t;simp only at hid hc;subst hid hc;obtain⟨rb,hrb⟩:∃ rb,rb=w.heap.size:=⟨_,rfl⟩;have X0:Zf w (w.alloc (Zr kd (some ⟨ku,0,none⟩) ⟨idx,i,3,pos,st,fi,sf⟩)):=(Fl _).alloc _;rw[<- hrb]at K0;go_enter Tryz.func70,Tryz.ntmps70
 go_upto_region 1 with fail
 have HAB:=Hd (Ai1 (strs.ext hA X0) (strs.ext hB X0));have HX:=Hd X0;rw[<- hrb];clear hA hB hrb X0;generalize w.alloc _=W at *;obtain⟨c1,c2,c3,c4,b1,b2,b8,lb,lk⟩:=id K0;have HF:Hid (∀ W',Zf W W'->UsF x i ku rb n C oC cC ca cb A B W'):=λW' f=>K0.ext f
 clear K0;have HFW:=Hd hfew;clear hfew;have hiz:(i:Int)<(n:Int):=Om
 have hi0:(0:Int)<=(i:Int):=Om
 go_upto_region 20 with fail
 go_quiet (fail)
 have F1:Zf W (W.drewN nq):=(Fl W).drewN nq;clear c1 c2 c3 c4 b1 b2 b8 lb lk;obtain⟨c1,c2,c3,c4,b1,b2,b8,lb,lk⟩:=HF.out _ F1;have H1:=Hd (Ai1 (Z5 HX.out F1) (Ai1 F1 (Ai1 (strs.ext HAB.out.1 F1) (strs.ext HAB.out.2 F1))));clear F1 HX HAB;generalize W.drewN nq=W1 at *;go_upto_region 21 with fail
 go_still_tail 10,Kr
 change wpList _ _ _ _ _ W1.drew;have F2:Zf W1 W1.drew:=(Fl W1).drew;have CJ:=Hd (P0 x.tokens A ca W1.drew (strs.ext H1.out.2.2.1 F2) HFW.out.1 HFW.out.2.2.1);go_wp2_with (first|(go_at_call 119;refine CJ.out.mono ?_;rintro e w5 ⟨rfl,hx5⟩;have HX5:=Hd (Z5 F2 hx5))|fail)
 clear c1 c2 c3 c4 b1 b2 b8 lb lk CJ F2 hx5;obtain⟨c1,c2,c3,c4,b1,b2,b8,lb,lk⟩:=HF.out _ (Z5 H1.out.2.1 HX5.out);have H2:=Hd (Ai1 (Z5 H1.out.1 HX5.out) (strs.ext H1.out.2.2.2 HX5.out));clear H1 HX5;go_upto_region 22 with fail
 go_still_tail 10,Kr
 change wpList _ _ _ _ _ w5.drew;have F2:Zf w5 w5.drew:=(Fl w5).drew;have CJ:=Hd (P0 x.yomi B cb w5.drew (strs.ext H2.out.2 F2) (by have:=HFW.out;omega) HFW.out.2.2.2);go_wp2_with (first|(go_at_call 119;refine CJ.out.mono ?_;rintro e w6 ⟨rfl,hx5⟩;have HX6:=Hd (Z5 H2.out.1 (Z5 F2 hx5)))|fail)
 clear c1 c2 c3 c4 b1 b2 b8 lb lk CJ F2 hx5 H2 HF;go_upto_region 23 with fail
 go_wp2_with fail
 first|go_ret|go_ret2
 refine⟨_,rfl,?_,Z5 HX6.out ((Fl _).alloc _)⟩;refine strs.mono (O':=λj=>w.heap.size<=j) (λj _ hj=>Nt HX6.out.size hj) (Ub (xs:=[x.pos,Pg x.tokens,Pg x.yomi]) (alloc_at _ _) rfl (λs hs=>?_) Om);have j1:=J9 x.tokens;have j2:=J9 x.yomi;have:=HFW.out;rcases List.mem_cons.1 hs with rfl|hs
 ·exact hps
 ·rcases List.mem_cons.1 hs with rfl|hs
  ·omega
  ·cases List.mem_singleton.1 hs;omega
theorem Zhx(d:Zg)(us:List GRec)(t:Yw)(i:Nat)(hid:t.id=i)(hc:t.cls=3)(hi:i<us.length)(kd H U:Nat)(pu:Option Addr)(w:World)(hD:Wv d us kd pu H U w) :
  Calls Tryz.prog 71 #[.agg (Yh kd pu t).toArray] w λe w'=>∃ v,e=.returned v/\strs.R w' (λj=>w.heap.size<=j) [us[i].pos] [v]/\Zf w w':=by
 have mixed:Tryz.prog.follows .mixedOrders=true:=Kr
 obtain⟨ku,n,C,oC,cC,ca,cb,A,B,rfl,hin,K0,_,_,_,hps⟩:=Fw hD t i hid hc hi;generalize us[i]=x at *;clear hD hi;obtain⟨idx,id,cls,pos,st,fi,sf⟩:=t;simp only at hid hc;subst hid hc;obtain⟨rb,hrb⟩:∃ rb,rb=w.heap.size:=⟨_,rfl⟩;have X0:Zf w (w.alloc (Zr kd (some ⟨ku,0,none⟩) ⟨idx,i,3,pos,st,fi,sf⟩)):=(Fl _).alloc _;rw[<- hrb]at K0;go_enter Tryz.func71,Tryz.ntmps71
 go_upto_region 1 with fail
 have HX:=Hd X0;rw[<- hrb];clear hrb X0;generalize w.alloc _=W at *;obtain⟨c1,c2,c3,c4,b1,b2,b8,lb,lk⟩:=id K0;clear K0;have hiz:(i:Int)<(n:Int):=Om
 have hi0:(0:Int)<=(i:Int):=Om
 go_upto_region 29 with fail
 go_quiet (fail)
 have H1:=Hd (Z5 HX.out ((Fl W).drewN nq));clear c1 c2 c3 c4 b1 b2 b8 lb lk HX;generalize W.drewN nq=W1 at *;go_upto_region 30 with fail
 go_wp2_with fail
 first|go_ret|go_ret2
 refine⟨_,rfl,?_,Z5 H1.out ((Fl _).alloc _)⟩;exact strs.mono (O':=λj=>w.heap.size<=j) (λj _ hj=>Nt H1.out.size hj) (Ub (xs:=[x.pos]) (alloc_at _ _) rfl (λs hs=>by cases List.mem_singleton.1 hs;exact hps) Om)
theorem Zf8(t:Yw)(hc:t.cls=0)(kd:Nat)(pu:Option Addr)(w:World):Calls Tryz.prog 70 #[.agg (Yh kd pu t).toArray] w λe w'=>e=.returned (.slice none 0 0)/\Zf w w':=by
 obtain⟨idx,id,cls,pos,st,fi,sf⟩:=t;simp only at hc;subst hc;go_enter Tryz.func70,Tryz.ntmps70
 go_wp2_with fail
 first|go_ret|go_ret2
 exact⟨rfl,(Fl _).alloc _⟩
theorem Zhy(t:Yw)(hc:t.cls=0)(kd:Nat)(pu:Option Addr)(w:World):Calls Tryz.prog 71 #[.agg (Yh kd pu t).toArray] w λe w'=>e=.returned (.slice none 0 0)/\Zf w w':=by
 obtain⟨idx,id,cls,pos,st,fi,sf⟩:=t;simp only at hc;subst hc;go_enter Tryz.func71,Tryz.ntmps71
 go_wp2_with fail
 first|go_ret|go_ret2
 exact⟨rfl,(Fl _).alloc _⟩
end
section
open Go.RowKit DT SS TR LT
def Ql(l:List ByteArray)(k:Int):Option ByteArray:=if k<0 then none else l[k.toNat]?
abbrev Yp(o:Option ByteArray):Value:=.tuple #[.string (o.getD ⟨#[]⟩),.bool o.isSome]
theorem Zeb(t:Yw)(kd:Nat)(pu:Option Addr)(k:Int)(hk:k<0)(w:World):Calls Tryz.prog 163 #[.agg (Yh kd pu t).toArray,.int .i64 k] w λe w'=>e=.returned (Yp none)/\Zf w w':=by
 obtain⟨idx,id,cls,pos,st,fi,sf⟩:=t;go_enter Tryz.func163,Tryz.ntmps163
 go_wp2_with fail
 first|go_ret|go_ret2
 exact⟨rfl,(Fl _).alloc _⟩
theorem Zf9(d:Zg)(us:List GRec)(t:Yw)(i:Nat)(hid:t.id=i)(hc:t.cls=1)(hi:i<(Zu d).length)(kd H U:Nat)(pu:Option Addr)(n:Nat)(hn:n<=9223372036854775807)(w:World)(hD:Wv d us kd pu H U w) :
  Calls Tryz.prog 163 #[.agg (Yh kd pu t).toArray,.int .i64 (n:Int)] w λe w'=>e=.returned (Yp (((Zu d)[i].pos++(Zu d)[i].contents)[n]?))/\Zf w w':=by
 have mixed:Tryz.prog.follows .mixedOrders=true:=Kr
 obtain⟨nw,nl,P,cP,Q,cQ,gl,C,cC,R,cR,hiw,K0,hP,hC,hfew,hnl⟩:=Zco hD t i hid hc hi;generalize (Zu d)[i]=x at *;have hpl:=hfew.1;have hcl:=hfew.2.1;clear hD hi hfew;obtain⟨idx,id,cls,pos,st,fi,sf⟩:=t;simp only at hid hc;subst hid hc;obtain⟨rb,hrb⟩:∃ rb,rb=w.heap.size:=⟨_,rfl⟩;have X0:Zf w (w.alloc (Zr kd pu ⟨idx,i,1,pos,st,fi,sf⟩)):=(Fl _).alloc _;rw[<- hrb]at K0;have hn0:¬ (n:Int)<0:=Om
 go_enter Tryz.func163,Tryz.ntmps163
 go_upto_region 1 with fail
 have HP:=Hd hP;have HC:=Hd (strs.ext hC X0);have HX:=Hd X0;rw[<- hrb];clear hP hC hrb X0;generalize w.alloc _=W at *;obtain⟨p1,p2,p3,c1,c2,b1,b2,b7,lb,lk⟩:=id K0;have HF:Hid (∀ W',Zf W W'->KnF x i kd rb nw nl P cP cQ gl C cC cR Q R W'):=λW' f=>K0.ext f
 clear K0;have hiz:(i:Int)<(nw:Int):=Om
 have hi0:(0:Int)<=(i:Int):=Om
 go_upto_region 5 with fail
 go_quiet (fail)
 have F1:Zf W (W.drewN nq):=(Fl W).drewN nq;have HF1:=Hd (HX.out.trans F1 (λ_ _ e=>e));have HCW:=Hd (strs.ext HC.out F1);clear p1 p2 p3 c1 c2 b1 b2 b7 lb lk;obtain⟨p1,p2,p3,c1,c2,b1,b2,b7,lb,lk⟩:=HF.out _ F1;have HF2:Hid (∀ W',Zf (W.drewN nq) W'->KnF x i kd rb nw nl P cP cQ gl C cC cR Q R W'):=λW' f=>HF.out _ (F1.trans f (λ_ _ e=>e))
 clear F1;generalize W.drewN nq=W1 at *;by_cases hlt:n<x.pos.length
 ·have hlz:(n:Int)<(x.pos.length:Int):=Om
  have hn1:(0:Int)<=(n:Int):=Om
  obtain⟨b,o,k,rfl,hq,hk,hnm⟩:=HP.out n hlt;have hq:=HF1.out.cell hq id;have hnm:=HF1.out.cell hnm id;have hk1:(0:Int)<=(k:Int)+1:=Om
  have hk2:(k:Int)+1<(nl:Int)+1:=Om
  have hk3:((k:Int)+1).toNat=k+1:=Om
  have hk4:¬ (nl:Int)+1<(k:Int)+1:=Om
  have hk5:wrap64 ((k:Int)+1)=(k:Int)+1:=by unfold wrap64;omega
  have HE:Hid ((x.pos++x.contents)[n]?=some x.pos[n]):=by
   show _=_;rw[List.getElem?_append_left hlt,Ge hlt]
  go_wp2_with fail
  first|go_ret|go_ret2
  exact⟨by rw[HE.out];rfl,HF1.out⟩
 ·have hlz:¬ (n:Int)<(x.pos.length:Int):=Om
  have hsub:IntKind.i64.wrap ((n:Int)-(x.pos.length:Int))=((n-x.pos.length:Nat):Int):=by rw[IntKind.wrap_i64];omega
  obtain⟨m,hm⟩:∃ m,m=n-x.pos.length:=⟨_,rfl⟩;rw[<- hm]at hsub
  have HE:Hid ((x.pos++x.contents)[n]?=x.contents[m]?):=by
   show _=_;rw[List.getElem?_append_right Om,hm]
  have hin:¬ (nw:Int)<=(i:Int):=Om
  clear hm;go_upto_region 12 with fail
  go_quiet (fail)
  have F3:Zf W1 (W1.drewN nq):=(Fl W1).drewN nq;clear p1 p2 p3 c1 c2 b1 b2 b7 lb lk;obtain⟨p1,p2,p3,c1,c2,b1,b2,b7,lb,lk⟩:=HF2.out _ F3;have HF3:=Hd (Ai1 F3 (strs.ext HCW.out F3));clear F3;generalize W1.drewN nq=W2 at *;go_upto_region 14 with fail
  go_quiet (fail)
  have F4:Zf W2 (W2.drewN nq):=(Fl W2).drewN nq;have HF4:=Hd (Ai1 (HF1.out.trans (HF3.out.1.trans F4 (λ_ _ e=>e)) (λ_ _ e=>e)) (strs.ext HF3.out.2 F4));clear F4 p1 p2 p3 c1 c2 b1 b2 b7 lb lk;generalize W2.drewN nq=W3 at *;by_cases hm:m<x.contents.length
  ·obtain⟨b,o,e,_,hcc⟩:=Y9 HF4.out.2 (λe=>by rw[e]at hm;simp at hm);subst e;have hq:=hcc m (.string x.contents[m]) (by rw[List.getElem?_map,Ge hm];rfl);rw[Addr.add_lit]at hq;have hmz:¬ (x.contents.length:Int)<=(m:Int):=Om;have hmz2:(m:Int)<(x.contents.length:Int):=Om;have hm0:(0:Int)<=(m:Int):=Om;have HE2:Hid (x.contents[m]?=some x.contents[m]):=Ge hm;clear hcc;go_wp2_with fail
   first|go_ret|go_ret2
   exact⟨by rw[HE.out,HE2.out];rfl,HF4.out.1⟩
  ·have hmz:(x.contents.length:Int)<=(m:Int):=Om;have HE2:Hid (x.contents[m]?=none):=List.getElem?_eq_none Om;go_wp2_with fail
   first|go_ret|go_ret2
   exact⟨by rw[HE.out,HE2.out];rfl,HF4.out.1⟩
end
section
open Go.RowKit DT SS TR LT
theorem Zi6(t:Yw)(hc:t.cls=0)(kd:Nat)(pu:Option Addr)(k:Int)(w:World):Calls Tryz.prog 163 #[.agg (Yh kd pu t).toArray,.int .i64 k] w λe w'=>e=.returned (Yp none)/\Zf w w':=by
 by_cases hk:k<0
 ·exact Zeb t kd pu k hk w
 obtain⟨idx,id,cls,pos,st,fi,sf⟩:=t;simp only at hc;subst hc;go_enter Tryz.func163,Tryz.ntmps163
 go_wp2_with fail
 first|go_ret|go_ret2
 exact⟨rfl,(Fl _).alloc _⟩
theorem Zlo(d:Zg)(us:List GRec)(t:Yw)(i:Nat)(hid:t.id=i)(hc:t.cls=2)(hi:i<(Ze d).length)(kd H U:Nat)(pu:Option Addr)(n:Nat)(w:World)(hD:Wv d us kd pu H U w) :
  Calls Tryz.prog 163 #[.agg (Yh kd pu t).toArray,.int .i64 (n:Int)] w λe w'=>e=.returned (Yp ((Ze d)[i].contents[n]?))/\Zf w w':=by
 have mixed:Tryz.prog.follows .mixedOrders=true:=Kr
 obtain⟨nw,C,cC,R,cR,hiw,K0,hC,hcl⟩:=Zbv hD t i hid hc hi;generalize (Ze d)[i]=x at *;clear hD hi;obtain⟨idx,id,cls,pos,st,fi,sf⟩:=t;simp only at hid hc;subst hid hc;obtain⟨rb,hrb⟩:∃ rb,rb=w.heap.size:=⟨_,rfl⟩;have X0:Zf w (w.alloc (Zr kd pu ⟨idx,i,2,pos,st,fi,sf⟩)):=(Fl _).alloc _;rw[<- hrb]at K0;have hn0:¬ (n:Int)<0:=Om
 go_enter Tryz.func163,Tryz.ntmps163
 go_upto_region 1 with fail
 have HC:=Hd (strs.ext hC X0);have HX:=Hd X0;rw[<- hrb];clear hC hrb X0;generalize w.alloc _=W at *;obtain⟨c1,c2,b1,b2,b7,lb,lk⟩:=id K0;have HF:Hid (∀ W',Zf W W'->UnF x i kd rb nw C cC cR R W'):=λW' f=>K0.ext f
 clear K0;have hiz:(i:Int)<(nw:Int):=Om
 have hi0:(0:Int)<=(i:Int):=Om
 have hin:¬ (nw:Int)<=(i:Int):=Om
 go_upto_region 19 with fail
 go_quiet (fail)
 have F1:Zf W (W.drewN nq):=(Fl W).drewN nq;clear c1 c2 b1 b2 b7 lb lk;obtain⟨c1,c2,b1,b2,b7,lb,lk⟩:=HF.out _ F1;have H1:=Hd (Ai1 (Z5 HX.out F1) (strs.ext HC.out F1));clear F1 HX HC HF;generalize W.drewN nq=W1 at *;go_upto_region 21 with fail
 go_quiet (fail)
 have F1:Zf W1 (W1.drewN nq):=(Fl W1).drewN nq;have H2:=Hd (Ai1 (Z5 H1.out.1 F1) (strs.ext H1.out.2 F1));clear F1 H1 c1 c2 b1 b2 b7 lb lk;generalize W1.drewN nq=W2 at *;by_cases hm:n<x.contents.length
 ·obtain⟨b,o,e,_,hcc⟩:=Y9 H2.out.2 (λe=>by rw[e]at hm;simp at hm);subst e;have hq:=hcc n (.string x.contents[n]) (by rw[List.getElem?_map,Ge hm];rfl);rw[Addr.add_lit]at hq;have hmz:¬ (x.contents.length:Int)<=(n:Int):=Om
  have hmz2:(n:Int)<(x.contents.length:Int):=Om
  have hm0:(0:Int)<=(n:Int):=Om
  have HE2:Hid (x.contents[n]?=some x.contents[n]):=Ge hm;clear hcc;go_wp2_with fail
  first|go_ret|go_ret2
  exact⟨rfl,H2.out.1⟩
 ·have hmz:(x.contents.length:Int)<=(n:Int):=Om
  have HE2:Hid (x.contents[n]?=none):=List.getElem?_eq_none Om;go_wp2_with fail
  first|go_ret|go_ret2
  exact⟨rfl,H2.out.1⟩
theorem Zi5(d:Zg)(us:List GRec)(t:Yw)(i:Nat)(hid:t.id=i)(hc:t.cls=3)(hi:i<us.length)(kd H U:Nat)(pu:Option Addr)(m:Nat)(w:World)(hD:Wv d us kd pu H U w) :
  Calls Tryz.prog 163 #[.agg (Yh kd pu t).toArray,.int .i64 (m:Int)] w λe w'=>e=.returned (Yp ([us[i].pos,Pg us[i].tokens,Pg us[i].yomi][m]?))/\Zf w w':=by
 have mixed:Tryz.prog.follows .mixedOrders=true:=Kr
 obtain⟨ku,n,C,oC,cC,ca,cb,A,B,rfl,hin,K0,hA,hB,hfew,hps⟩:=Fw hD t i hid hc hi;generalize us[i]=x at *;clear hD hi;obtain⟨idx,id,cls,pos,st,fi,sf⟩:=t;simp only at hid hc;subst hid hc;obtain⟨rb,hrb⟩:∃ rb,rb=w.heap.size:=⟨_,rfl⟩;have X0:Zf w (w.alloc (Zr kd (some ⟨ku,0,none⟩) ⟨idx,i,3,pos,st,fi,sf⟩)):=(Fl _).alloc _;rw[<- hrb]at K0;have hn0:¬ (m:Int)<0:=Om
 go_enter Tryz.func163,Tryz.ntmps163
 go_upto_region 1 with fail
 have HAB:=Hd (Ai1 (strs.ext hA X0) (strs.ext hB X0));have HX:=Hd X0;rw[<- hrb];clear hA hB hrb X0;generalize w.alloc _=W at *;obtain⟨c1,c2,c3,c4,b1,b2,b8,lb,lk⟩:=id K0;have HF:Hid (∀ W',Zf W W'->UsF x i ku rb n C oC cC ca cb A B W'):=λW' f=>K0.ext f
 clear K0;have HFW:=Hd hfew;clear hfew;have hiz:(i:Int)<(n:Int):=Om
 have hi0:(0:Int)<=(i:Int):=Om
 have hin:¬ (n:Int)<=(i:Int):=Om
 go_upto_region 26 with fail
 go_quiet (fail)
 have F1:Zf W (W.drewN nq):=(Fl W).drewN nq;clear c1 c2 c3 c4 b1 b2 b8 lb lk;obtain⟨c1,c2,c3,c4,b1,b2,b8,lb,lk⟩:=HF.out _ F1;have H1:=Hd (Ai1 (Z5 HX.out F1) (Ai1 (strs.ext HAB.out.1 F1) (strs.ext HAB.out.2 F1)));clear F1 HX HAB HF;generalize W.drewN nq=W1 at *;rcases m with _|_|_|m
 ·go_upto_region 30 with fail
  go_quiet (fail)
  go_wp2_with fail
  first|go_ret|go_ret2
  exact⟨rfl,Z5 H1.out.1 ((Fl W1).drewN nq)⟩
 ·have CJ:=Hd (P0 x.tokens A ca W1.drew (strs.ext H1.out.2.1 (Fl W1).drew) HFW.out.1 HFW.out.2.2.1);go_upto_region 32 with fail
  go_still_tail 10,Kr
  change wpList _ _ _ _ _ W1.drew;go_wp2_with (first|(go_at_call 119;refine CJ.out.mono ?_;rintro e w6 ⟨rfl,hx5⟩;have HX6:=Hd (Z5 H1.out.1 (Z5 ((Fl W1).drew) hx5)))|fail)
  first|go_ret|go_ret2
  exact⟨rfl,HX6.out⟩
 ·have CJ:=Hd (P0 x.yomi B cb W1.drew (strs.ext H1.out.2.2 (Fl W1).drew) (by have:=HFW.out;omega) HFW.out.2.2.2);go_upto_region 34 with fail
  go_still_tail 10,Kr
  change wpList _ _ _ _ _ W1.drew;go_wp2_with (first|(go_at_call 119;refine CJ.out.mono ?_;rintro e w6 ⟨rfl,hx5⟩;have HX6:=Hd (Z5 H1.out.1 (Z5 ((Fl W1).drew) hx5)))|fail)
  first|go_ret|go_ret2
  exact⟨rfl,HX6.out⟩
 ·have e0:(((m+3:Nat):Int)==0)=false:=by rw[beq_eq_false_iff_ne];omega
  have e1:(((m+3:Nat):Int)==1)=false:=by rw[beq_eq_false_iff_ne];omega
  have e2:(((m+3:Nat):Int)==2)=false:=by rw[beq_eq_false_iff_ne];omega
  go_wp2_with fail
  first|go_ret|go_ret2
  exact⟨by simp,H1.out.1⟩
end
section
open Go.RowKit DT SS TR LT
def Xu(ms:List Wb)(s:ByteArray):Option Int:=ms.foldl (λo m=>if m.1=s then some m.2 else o) none
theorem Qf(s:ByteArray)(ms:List Wb):look (Xo ms) s=(Xu ms s).map (Value.int .i8):=by
 suffices ∀ r:List Wb,look (Xo r.reverse) s=(Xu r.reverse s).map (Value.int .i8) by simpa using this ms.reverse
 intro r
 induction r with
 | nil=>rfl
 | cons m r ih =>
  rw[List.reverse_cons,L4,Wi];unfold Xu;rw[List.foldl_append];simp only[List.foldl_cons,List.foldl_nil]
  split
  ·rfl
  ·exact ih
theorem Qe{ms:List Wb}{s:ByteArray}{v:Int}(h:Xu ms s=some v):∃ m∈ms,m.2=v:=by
 suffices ∀ r:List Wb,Xu r.reverse s=some v->∃ m∈r,m.2=v by
  obtain⟨m,hm,e⟩:=this ms.reverse (by simpa using h);exact⟨m,by simpa using hm,e⟩
 intro r
 induction r with
 | nil=>intro h;cases h
 | cons m r ih =>
  intro h;unfold Xu at h;rw[List.reverse_cons,List.foldl_append]at h;simp only[List.foldl_cons,List.foldl_nil]at h
  split at h
  ·exact⟨m,by simp,Option.some.inj h⟩
  ·obtain⟨q,hq,e⟩:=ih h;exact⟨q,by simp[hq],e⟩
abbrev Ld:ByteArray:=⟨#[95,112,111,115,95,115,116,97,114,116]⟩
abbrev Gt:ByteArray:=⟨#[95,112,111,115,95,104,105,101,114,97,114,99,104,121]⟩
def Kp(ms:List Wb):Int:=(Xu ms Ld).getD 0
def E4(ms:List Wb):Int:=match Xu ms Gt with|some v=>Kp ms+v|none=>1
def M5(ms:List Wb)(c:List ByteArray):List ByteArray:=if E4 ms<=Kp ms\/(c.length:Int)<E4 ms then [] else (c.take (E4 ms).toNat).drop (Kp ms).toNat
theorem Qz(w:World):(zeroValue 91).run Tryz.prog w=.ok (.int .i8 0) w:=Kr
theorem Zk0(d:Zg)(us:List GRec)(t:Yw)(i:Nat)(hid:t.id=i)(hc:t.cls=2)(hi:i<(Ze d).length)(kd H U:Nat)(pu:Option Addr)(w:World)(hD:Wv d us kd pu H U w) :
  Calls Tryz.prog 71 #[.agg (Yh kd pu t).toArray] w λe w'=>∃ v,e=.returned v/\strs.R w' (λj=>w.heap.size<=j) (M5 (Zj d.unkMeta) (Ze d)[i].contents) [v]/\Zf w w':=by
 have mixed:Tryz.prog.follows .mixedOrders=true:=Kr
 obtain⟨nw,C,cC,R,cR,hiw,K0,hC,hcl⟩:=Zbv hD t i hid hc hi;obtain⟨_,mu,_,_,hm1,hm2⟩:=hD.dict.marks;have hmk:=hD.marks.2;generalize (Ze d)[i]=x at *;have l1:=Qf Ld (Zj d.unkMeta);have l2:=Qf Gt (Zj d.unkMeta);have b1:∀ v,Xu (Zj d.unkMeta) Ld=some v->0<=v/\v<=100:=λv h=>by obtain⟨m,hm,rfl⟩:=Qe h;exact hmk m hm
 have b2:∀ v,Xu (Zj d.unkMeta) Gt=some v->0<=v/\v<=100:=λv h=>by obtain⟨m,hm,rfl⟩:=Qe h;exact hmk m hm
 have hpu:M5 (Zj d.unkMeta) x.contents=M5 (Zj d.unkMeta) x.contents:=rfl
 conv at hpu=>rhs;unfold M5 E4 Kp
 obtain⟨res,hres⟩:∃ res,res=M5 (Zj d.unkMeta) x.contents:=⟨_,rfl⟩;rw[<- hres]at hpu⊢;have HPU:=Hd hpu;clear hpu hres hD hi hmk;generalize Xo (Zj d.unkMeta)=L at *;generalize Xu (Zj d.unkMeta) Ld=a at *;generalize Xu (Zj d.unkMeta) Gt=b at *;have HB:=Hd (Ai1 b1 b2);have HLK:=Hd (Ai1 l1 l2);clear b1 b2 l1 l2;obtain⟨idx,id,cls,pos,st,fi,sf⟩:=t;simp only at hid hc;subst hid hc;obtain⟨rb,hrb⟩:∃ rb,rb=w.heap.size:=⟨_,rfl⟩;have X0:Zf w (w.alloc (Zr kd pu ⟨idx,i,2,pos,st,fi,sf⟩)):=(Fl _).alloc _;rw[<- hrb]at K0;go_enter Tryz.func71,Tryz.ntmps71
 go_upto_region 1 with fail
 have HC:=Hd (strs.ext hC X0);have HX:=Hd X0;have hm1:=X0.cell hm1 id;have hm2:=hm2.keep X0 id;have HF:Hid (∀ W',Zf (w.alloc (Zr kd pu ⟨idx,i,2,pos,st,fi,sf⟩)) W'->UnF x i kd rb nw C cC cR R W'/\W'.cell? ⟨kd,17,none⟩=some (.map (some mu))/\Zz Xx mu L W'):=λW' f=>⟨K0.ext f,f.cell hm1 id,hm2.keep f id⟩
 rw[<- hrb];clear hC hrb X0 K0 hm1 hm2;generalize w.alloc _=W at *;obtain⟨⟨c1,c2,b1,b2,b7,lb,lk⟩,hm1,hm2⟩:=HF.out W (Fl _);have HM:=Hd hm2;clear hm2;have hiz:(i:Int)<(nw:Int):=Om
 have hi0:(0:Int)<=(i:Int):=Om
 obtain⟨st,hst⟩:∃ st,st=a.getD 0:=⟨_,rfl⟩;obtain⟨en,hen⟩:∃ en,en=(match b with|some v=>st+v|none=>(1:Int)):=⟨_,rfl⟩;rw[<- hst,<- hen]at HPU;have HST:=Hd hst;have HEN:=Hd hen;clear hst hen;go_upto_region 11 with fail
 go_cut [6] from 6 to 6 (λv6 wr=>v6=.int .i64 0/\W=wr)
 case first =>
  go_wp2_with fail
  go_meet
  case rel=>exact⟨rfl,rfl⟩
 case rest =>
 obtain⟨rfl,e⟩:=hcut;subst e;go_step;refine wp_seq_k λK hK=>?_
 go_cut [6] from 6 to 75 (λv6 wr=>v6=.int .i64 st/\W=wr)
 case first =>
  have hl:=HLK.out.1;rcases a with _|v
  ·simp only[Option.map_none]at hl
   go_wp2_with (first
    | (at_lookup;refine Zk rfl _ _ true rfl Uw Tryz.underlying102 Tryz.underlying9 (Qz _) rfl HM.out Ld rfl ?_;simp only[if_true,hl,Option.getD_none,Option.isSome_none])
    | fail)
   go_meet
   case rel=>exact⟨by rw[HST.out];rfl,rfl⟩
  ·simp only[Option.map_some]at hl;have hv:=HB.out.1 v rfl;have hw:IntKind.i64.wrap v=v:=by rw[IntKind.wrap_i64];omega
   go_wp2_with (first
    | (at_lookup;refine Zk rfl _ _ true rfl Uw Tryz.underlying102 Tryz.underlying9 (Qz _) rfl HM.out Ld rfl ?_;simp only[if_true,hl,Option.getD_some,Option.isSome_some])
    | fail)
   go_meet
   case rel=>exact⟨by rw[HST.out];rfl,rfl⟩
 case rest =>
 obtain⟨rfl,e⟩:=hcut;subst e
 have hst:0<=st/\st<=100:=by
  rw[HST.out]
  cases a with
  | none=>exact⟨by decide,by decide⟩
  | some v=>exact HB.out.1 v rfl
 have HSB:=Hd hst;clear hst HST;go_step;refine wp_seq_k λK2 hK2=>?_
 go_cut [9] from 9 to 9 (λv9 wr=>v9=.int .i64 1/\W=wr)
 case first =>
  go_wp2_with fail
  go_meet
  case rel=>exact⟨rfl,rfl⟩
 case rest =>
 obtain⟨rfl,e⟩:=hcut;subst e;go_step;refine wp_seq_k λK3 hK3=>?_
 go_cut [9] from 9 to 90 (λv9 wr=>v9=.int .i64 en/\W=wr)
 case first =>
  have hl:=HLK.out.2;rcases b with _|v
  ·simp only[Option.map_none]at hl
   go_wp2_with (first
    | (at_lookup;refine Zk rfl _ _ true rfl Uw Tryz.underlying102 Tryz.underlying9 (Qz _) rfl HM.out Gt rfl ?_;simp only[if_true,hl,Option.getD_none,Option.isSome_none])
    | fail)
   go_meet
   case rel=>exact⟨by rw[HEN.out],rfl⟩
  ·simp only[Option.map_some]at hl;have hv:=HB.out.2 v rfl;have hw:IntKind.i64.wrap v=v:=by rw[IntKind.wrap_i64];omega
   have hsb:=HSB.out;have hw2:IntKind.i64.wrap (st+v)=st+v:=by rw[IntKind.wrap_i64];omega
   clear hsb
   go_wp2_with (first
    | (at_lookup;refine Zk rfl _ _ true rfl Uw Tryz.underlying102 Tryz.underlying9 (Qz _) rfl HM.out Gt rfl ?_;simp only[if_true,hl,Option.getD_some,Option.isSome_some])
    | fail)
   go_meet
   case rel=>exact⟨by rw[HEN.out],rfl⟩
 case rest =>
 obtain⟨rfl,e⟩:=hcut;subst e
 have hen:0<=en/\en<=200:=by
  have:=HSB.out;rw[HEN.out]
  cases b with
  | none=>exact⟨by show (0:Int)<=1;decide,by show (1:Int)<=200;decide⟩
  | some v=>have:=HB.out.2 v rfl;exact⟨by show 0<=st+v;omega,by show st+v<=200;omega⟩
 clear HEN HB HLK HM;go_step;go_upto_region 19 with fail
 go_quiet (fail)
 have F1:Zf W (W.drewN nq):=(Fl W).drewN nq;have H1:=Hd (Ai1 (Z5 HX.out F1) (strs.ext HC.out F1));clear F1 HX HC HF c1 c2 b1 b2 b7 lb lk hm1;generalize W.drewN nq=W1 at *;obtain⟨p,rfl⟩:∃ p:Nat,st=p:=⟨st.toNat,by have:=HSB.out;omega⟩;obtain⟨q,rfl⟩:∃ q:Nat,en=q:=⟨en.toNat,Om⟩;by_cases h1:q<=p
 ·have hz:(q:Int)<=(p:Int):=Om
  have HR:Hid (res=[]):=by show _=_;rw[HPU.out,if_pos (.inl hz)]
  go_wp2_with fail
  first|go_ret|go_ret2
  rw[HR.out];exact⟨_,rfl,⟨none,0,rfl,Nl _,λ_=>rfl,by simp,.inl rfl⟩,H1.out.1⟩
 by_cases h2:x.contents.length<q
 ·have hz:¬ (q:Int)<=(p:Int):=Om
  have hz2:(x.contents.length:Int)<(q:Int):=Om
  have HR:Hid (res=[]):=by show _=_;rw[HPU.out,if_pos (.inr hz2)]
  go_wp2_with fail
  first|go_ret|go_ret2
  rw[HR.out];exact⟨_,rfl,⟨none,0,rfl,Nl _,λ_=>rfl,by simp,.inl rfl⟩,H1.out.1⟩
 have hz:¬ (q:Int)<=(p:Int):=Om
 have hz2:¬ (x.contents.length:Int)<(q:Int):=Om
 have HR:Hid (res=(x.contents.take q).drop p):=by show _=_;rw[HPU.out,if_neg Om];rfl
 have hw:IntKind.i64.wrap ((q:Int)-(p:Int))=((q-p:Nat):Int):=by rw[IntKind.wrap_i64];omega
 obtain⟨m,hm⟩:∃ m,m=q-p:=⟨_,rfl⟩;rw[<- hm]at hw;have HMQ:=Hd hm;clear hm;have hm6:m<=200:=by have:=HMQ.out;omega
 have hmk:∀ W:World,(Instr.makeSlice 34 (.int .i64 0) (.int .i64 (m:Int))).run Tryz.prog W=.ok (.slice (some ⟨W.heap.size,0,none⟩) 0 m) (W.alloc (.cells (madeCells #[.string ⟨#[]⟩] m) 9)):=λW=>La 0 m Om Om W
 go_wp2_with fail
 obtain⟨N,hN⟩:∃ N,N=W1.heap.size:=⟨_,rfl⟩;rw[<- hN];have F2:Zf W1 (W1.alloc (.cells (madeCells #[.string ⟨#[]⟩] m) 9)):=(Fl W1).alloc _;have K2:(W1.alloc (.cells (madeCells #[.string ⟨#[]⟩] m) 9)).heap[N]?=some (.cells (madeCells #[.string ⟨#[]⟩] m) 9 (0,0)):=alloc_at' _ _ hN;have hNw:w.heap.size<=N:=by rw[hN];exact H1.out.1.size
 have hNW:W1.heap.size<=N:=Om
 have HF3:=Hd (Ai1 F2 K2);clear hN hmk F2 K2;generalize W1.alloc _=W2 at *
 go_loopg [13,14] q (λg1 v13 v14 wr=>∃ (j:Nat) (u:Value),v13=u/\v14=.int .i64 (j:Int)/\(p<=j/\j<=q)/\q<=j+g1/\Hid (RowK Ty.str 9 u ((x.contents.take j).drop p) N wr/\Zf W1 wr)/\N<=wr.heap.size)
 case atStart=>exact⟨p,_,rfl,rfl,Om,Om,⟨by rw[List.drop_eq_nil_of_le (by simp;omega)];exact Zd0 rfl HF3.out.2 (by rw[Px]) Om (Nl _),HF3.out.1⟩,Nat.le_of_lt (Gs1.1 HF3.out.2).1⟩
 case round =>
  obtain⟨j,u,rfl,rfl,hj,hg,HR2,hNr⟩:=hrel;have HL:=Hd HR2.out.1.low;by_cases hlt:j<q
  ·have hlz:(j:Int)<(q:Int):=Om;have hjx:j<x.contents.length:=Om;obtain⟨bb,o,e,_,hcc⟩:=Y9 H1.out.2 (λe=>by rw[e]at hjx;simp at hjx);subst e;have hq:=hcc j (.string x.contents[j]) (by rw[List.getElem?_map,Ge hjx];rfl);rw[Addr.add_lit]at hq;have hq:=HR2.out.2.cell hq id;have hjz:(j:Int)<(x.contents.length:Int):=Om;have hz0:(0:Int)<=(j:Int):=Om
   have HT:Hid ((x.contents.take (j+1)).drop p=(x.contents.take j).drop p++[x.contents[j]]):=by
    show _=_;rw[List.take_succ_eq_append_getElem hjx,List.drop_append_of_le_length (by simp;omega)]
   have hsz:=Tc H1.out.2 _ (List.getElem_mem hjx);generalize x.contents[j]=s at *;clear hcc
   go_wp2_with (first
    | (at_builtin;refine RowK.lst (v:=u13) rfl _ _ 34 rfl s [.string s] 16 ⟨wr.heap.size,0,none⟩ Tryz.underlying34 N6 (by decide) Om rfl rfl (HR2.out.1.ext ((Fl wr).alloc _)) (by rw[List.length_drop,List.length_take];omega) (by simp;omega) (Z0 _ _) ⟨rfl,Om⟩ ?_;intro v' w6 hR6 hf6 ha6;have H6:=Hd (Ai1 hR6 hf6);clear hR6 hf6 ha6)
    | fail)
   go_roundg (q-(j+1))
   case measure=>omega
   case rel=>exact⟨j+1,v',rfl,by go_num,Om,Om,⟨by rw[HT.out];exact H6.out.1,(HR2.out.2.alloc _).trans H6.out.2 (λk hk e=>by have:=(HL.out k e).1;omega)⟩,by have:=H6.out.2.size;rw[Za]at this;omega⟩
  ·have ej:j=q:=Om;have hown:=HR2.out.1.texts;rw[ej,<- HR.out]at hown;have HSR:=HR.out;have HO:=Hd (strs.mono (O':=λk=>w.heap.size<=k) (λk _ q=>Om) (Wq hown (λs hs=>by rw[HSR]at hs;exact Tc H1.out.2 s (List.mem_of_mem_take (List.mem_of_mem_drop hs)))));have HX2:=Hd (Z5 H1.out.1 HR2.out.2);have hjz:¬ (j:Int)<(q:Int):=Om;have hre:((x.contents.take j).drop p).length=res.length:=(by rw[HSR,ej]);clear hown HR2 HSR;go_wp2_with fail
   first|go_ret|go_ret2
   exact⟨_,rfl,HO.out,HX2.out⟩
end
section
open Go.RowKit DT SS TR LT
theorem Zfl(d:Zg)(us:List GRec)(t:Yw)(i:Nat)(hid:t.id=i)(hc:t.cls=1)(hi:i<(Zu d).length)(kd H U:Nat)(pu:Option Addr)(w:World)(hD:Wv d us kd pu H U w) :
  Calls Tryz.prog 71 #[.agg (Yh kd pu t).toArray] w λe w'=>∃ v,e=.returned v/\strs.R w' (λj=>w.heap.size<=j) (Zu d)[i].pos [v]/\Zf w w':=by
 have mixed:Tryz.prog.follows .mixedOrders=true:=Kr
 obtain⟨nw,nl,P,cP,Q,cQ,gl,C,cC,R,cR,hiw,K0,hP,hC,hfew,_⟩:=Zco hD t i hid hc hi;generalize (Zu d)[i]=x at *;clear hD hi;obtain⟨idx,id,cls,pos,st,fi,sf⟩:=t;simp only at hid hc;subst hid hc;obtain⟨rb,hrb⟩:∃ rb,rb=w.heap.size:=⟨_,rfl⟩;have X0:Zf w (w.alloc (Zr kd pu ⟨idx,i,1,pos,st,fi,sf⟩)):=(Fl _).alloc _;rw[<- hrb]at K0;go_enter Tryz.func71,Tryz.ntmps71
 go_upto_region 1 with fail
 have HP:=Hd hP;have HC:=Hd hC;have HX:=Hd X0;rw[<- hrb];have HRB:=Hd hrb;clear hP hC hrb X0;generalize w.alloc _=W at *;obtain⟨p1,p2,p3,c1,c2,b1,b2,b7,lb,lk⟩:=id K0;have HF:Hid (∀ W',Zf W W'->KnF x i kd rb nw nl P cP cQ gl C cC cR Q R W'):=λW' f=>K0.ext f
 clear K0;have hiz:(i:Int)<(nw:Int):=Om
 have hi0:(0:Int)<=(i:Int):=Om
 have hmk:∀ W:World,(Instr.makeSlice 34 (.int .i64 0) (.int .i64 (x.pos.length:Int))).run Tryz.prog W=.ok (.slice (some ⟨W.heap.size,0,none⟩) 0 x.pos.length) (W.alloc (.cells (madeCells #[.string ⟨#[]⟩] x.pos.length) 9)):=λW=>La 0 x.pos.length Om Om W
 go_upto_region 3 with fail
 go_still_tail 11,Kr
 change wpList _ _ _ _ _ W.drew;go_wp2_with fail
 obtain⟨N,hN⟩:∃ N,N=W.heap.size:=⟨_,rfl⟩;rw[<- hN];have F2:Zf W (W.alloc (.cells (madeCells #[.string ⟨#[]⟩] x.pos.length) 9)).drew:=((Fl W).alloc _).drew;have K2:(W.alloc (.cells (madeCells #[.string ⟨#[]⟩] x.pos.length) 9)).drew.heap[N]?=some (.cells (madeCells #[.string ⟨#[]⟩] x.pos.length) 9 (0,0)):=alloc_at' _ _ hN;have hNw:w.heap.size<=N:=by rw[hN];exact HX.out.size
 have hNW:W.heap.size<=N:=Om
 clear hN hmk p1 p2 p3 c1 c2 b1 b2 b7 lb lk;obtain⟨p1,p2,p3,c1,c2,b1,b2,b7,lb,lk⟩:=HF.out _ F2;generalize (W.alloc _).drew=W2 at *;go_quiet (fail)
 have F3:Zf W (W2.drewN nq):=F2.drewN nq;have K3:(W2.drewN nq).heap[N]?=some (.cells (madeCells #[.string ⟨#[]⟩] x.pos.length) 9 (0,0)):=K2;have HF3:=Hd (Ai1 F3 K3);clear F2 K2 F3 K3 p1 p2 p3 c1 c2 b1 b2 b7 lb lk;generalize W2.drewN nq=W3 at *;obtain⟨np,hnp⟩:∃ n,n=x.pos.length:=⟨_,rfl⟩;have HNP:=Hd hnp;rw[<- hnp];clear hnp;go_wp2_with fail
 have hnp:np<=50:=by rw[HNP.out];exact hfew.1
 have HSZ:=Hd hfew.2.2;clear hfew
 go_loopg [3,43] np (λg1 v3 v43 wr=>∃ (j:Nat) (u:Value),v3=u/\v43=.int .i64 (j:Int)/\j<=np/\np<=j+g1/\Hid (RowK Ty.str 9 u (x.pos.take j) N wr/\Zf W wr)/\N<=wr.heap.size)
 case atStart=>exact⟨0,_,rfl,rfl,Om,Om,⟨Zd0 rfl HF3.out.2 (by rw[Px];exact HNP.out.symm) Om (Nl _),HF3.out.1⟩,Nat.le_of_lt (Gs1.1 HF3.out.2).1⟩
 case round =>
  obtain⟨j,u,rfl,rfl,hj,hg,HR,hNr⟩:=hrel;have HL:=Hd HR.out.1.low;obtain⟨p1,p2,p3,c1,c2,b1,b2,b7,lb,lk⟩:=HF.out _ HR.out.2;by_cases hlt:j<np
  ·have hlz:(j:Int)<(np:Int):=Om;have hz0:(0:Int)<=(j:Int):=Om;obtain⟨b,o,k,rfl,hq,hk,hn⟩:=HP.out j (by rw[<- HNP.out];exact hlt);have XW:=HX.out.trans HR.out.2 (λ_ _ e=>e);have hq:=XW.cell hq id;have hn:=XW.cell hn id;have hk1:(0:Int)<=(k:Int)+1:=Om;have hk2:(k:Int)+1<(nl:Int)+1:=Om;have hk3:((k:Int)+1).toNat=k+1:=Om;have HT:Hid (x.pos.take (j+1)=x.pos.take j++[x.pos[j]'(by rw[<- HNP.out];exact hlt)]):=List.take_succ_eq_append_getElem (by rw[<- HNP.out];exact hlt);have HLQ:=Hd XW.size;have hsz:=HSZ.out _ (List.getElem_mem (show j<x.pos.length by rw[<- HNP.out];exact hlt));generalize x.pos[j]'(by rw[<- HNP.out];exact hlt)=s at *;clear XW
   go_wp2_with (first
    | (at_builtin;refine RowK.lst (v:=u3) rfl _ _ 34 rfl s [.string s] 16 ⟨wr.heap.size,0,none⟩ Tryz.underlying34 N6 (by decide) Om rfl rfl (HR.out.1.ext ((Fl wr).alloc _)) (by rw[List.length_take];omega) (by simp;omega) (Z0 _ _) ⟨rfl,Om⟩ ?_;intro v' w6 hR6 hf6 ha6;have H6:=Hd (Ai1 hR6 hf6);clear hR6 hf6 ha6)
    | fail)
   go_roundg (np-(j+1))
   case measure=>omega
   case rel=>exact⟨j+1,v',rfl,by go_num,Om,Om,⟨by rw[HT.out];exact H6.out.1,(HR.out.2.alloc _).trans H6.out.2 (λk hk e=>by have:=(HL.out k e).1;omega)⟩,by have:=H6.out.2.size;rw[Za]at this;omega⟩
  ·obtain rfl:j=np:=Om
   have hown:=HR.out.1.texts;have hjl:j=x.pos.length:=HNP.out;rw[hjl,List.take_length]at hown;have HO:=Hd (strs.mono (O':=λk=>w.heap.size<=k) (λk _ q=>Om) (Wq hown (λs hs=>by have:=HSZ.out s hs;omega)));have HR2:=Hd HR.out.2;clear hown HR HNP;go_wp2_with fail
   first|go_ret|go_ret2
   exact⟨_,rfl,HO.out,HX.out.trans HR2.out (λ_ _ e=>e)⟩
end
section
open Go.RowKit DT SS TR LT
def Ov(d:Zg)(us:List GRec)(t:Yw):List ByteArray :=
 if t.cls=1 then (wOf d t).pos else if t.cls=2 then M5 (Zj d.unkMeta) (uOf d t).contents else if t.cls=3 then [(rOf us t).pos] else []
def Zo(d:Zg)(us:List GRec)(t:Yw)(key:ByteArray):Option ByteArray :=
 if t.cls=1 then (Xu (Zj d.meta0) key).bind (Ql (Y2 d us t)) else if t.cls=2 then (Xu (Zj d.unkMeta) key).bind (Ql (Y2 d us t)) else none
theorem V8.cases{d:Zg}{us:List GRec}{t:Yw}(h:V8 d us t):t.cls=0\/(∃ i:Nat,t.cls=1/\t.id=i/\∃ hi:i<(Zu d).length,wOf d t=(Zu d)[i])\/(∃ i:Nat,t.cls=2/\t.id=i/\∃ hi:i<(Ze d).length,uOf d t=(Ze d)[i])\/∃ i:Nat,t.cls=3/\t.id=i/\∃ hi:i<us.length,rOf us t=us[i]:=by
 have h0:=h.cls;rcases Nat.lt_or_ge t.cls 1 with a|a
 ·left;omega
 rcases Nat.lt_or_ge t.cls 2 with b|b
 ·have e:t.cls=1:=Om
  obtain⟨i,h1,h2⟩:=h.known e;refine .inr (.inl ⟨i,e,h1,h2,?_⟩);unfold wOf;rw[h1,Int.toNat_natCast,List.getD_eq_getElem?_getD,Ge h2];rfl
 rcases Nat.lt_or_ge t.cls 3 with c|c
 ·have e:t.cls=2:=Om
  obtain⟨i,h1,h2⟩:=h.unk e;refine .inr (.inr (.inl ⟨i,e,h1,h2,?_⟩));unfold uOf;rw[h1,Int.toNat_natCast,List.getD_eq_getElem?_getD,Ge h2];rfl
 ·have e:t.cls=3:=Om
  obtain⟨i,h1,h2⟩:=h.user e;refine .inr (.inr (.inr ⟨i,e,h1,h2,?_⟩));unfold rOf;rw[h1,Int.toNat_natCast,List.getD_eq_getElem?_getD,Ge h2];rfl
section
variable{d:Zg}{us:List GRec}{t:Yw}{kd H U:Nat}{pu:Option Addr}{w:World}
theorem Nj{w:World}{O:Nat->Prop}:strs.R w O [] [.slice none 0 0]:=⟨none,0,rfl,Nl _,λ_=>rfl,by simp,.inl rfl⟩
theorem Za1(ht:V8 d us t)(hD:Wv d us kd pu H U w) :
  Calls Tryz.prog 70 #[.agg (Yh kd pu t).toArray] w λe w'=>∃ v,e=.returned v/\strs.R w' (λj=>w.heap.size<=j) (Y2 d us t) [v]/\Zf w w':=by
 rcases ht.cases with e|⟨i,e,h1,h2,h3⟩|⟨i,e,h1,h2,h3⟩|⟨i,e,h1,h2,h3⟩
 ·refine (Zf8 t e kd pu w).mono λe' w' h=>⟨_,h.1,?_,h.2⟩
  unfold Y2;rw[e];exact Nj
 ·have:=Zcv d us t i h1 e h2 kd H U pu w hD;unfold Y2;rw[e,h3];exact this
 ·have:=Zi4 d us t i h1 e h2 kd H U pu w hD;unfold Y2;rw[e,h3];exact this
 ·have:=Zf7 d us t i h1 e h2 kd H U pu w hD;unfold Y2;rw[e,h3];exact this
theorem Zdu(ht:V8 d us t)(hD:Wv d us kd pu H U w) :
  Calls Tryz.prog 71 #[.agg (Yh kd pu t).toArray] w λe w'=>∃ v,e=.returned v/\strs.R w' (λj=>w.heap.size<=j) (Ov d us t) [v]/\Zf w w':=by
 rcases ht.cases with e|⟨i,e,h1,h2,h3⟩|⟨i,e,h1,h2,h3⟩|⟨i,e,h1,h2,h3⟩
 ·refine (Zhy t e kd pu w).mono λe' w' h=>⟨_,h.1,?_,h.2⟩
  unfold Ov;rw[e];exact Nj
 ·have:=Zfl d us t i h1 e h2 kd H U pu w hD;unfold Ov;rw[e,h3];exact this
 ·have:=Zk0 d us t i h1 e h2 kd H U pu w hD;unfold Ov;rw[e,h3];exact this
 ·have:=Zhx d us t i h1 e h2 kd H U pu w hD;unfold Ov;rw[e,h3];exact this
theorem Zec(ht:V8 d us t)(k:Int)(hk:k<=9223372036854775807)(hD:Wv d us kd pu H U w) :
  Calls Tryz.prog 163 #[.agg (Yh kd pu t).toArray,.int .i64 k] w λe w'=>e=.returned (Yp (Ql (Y2 d us t) k))/\Zf w w':=by
 by_cases hn:k<0
 ·have e:Ql (Y2 d us t) k=none:=if_pos hn;rw[e];exact Zeb t kd pu k hn w
 obtain⟨n,rfl⟩:∃ n:Nat,k=n:=⟨k.toNat,Om⟩;have e0:∀ l:List ByteArray,Ql l n=l[n]?:=λl=>if_neg hn
 rw[e0];rcases ht.cases with e|⟨i,e,h1,h2,h3⟩|⟨i,e,h1,h2,h3⟩|⟨i,e,h1,h2,h3⟩
 ·have:=Zi6 t e kd pu n w;unfold Y2;rw[e];exact this
 ·have:=Zf9 d us t i h1 e h2 kd H U pu n Om w hD;unfold Y2;rw[e,h3];exact this
 ·have:=Zlo d us t i h1 e h2 kd H U pu n w hD;unfold Y2;rw[e,h3];exact this
 ·have:=Zi5 d us t i h1 e h2 kd H U pu n w hD;unfold Y2;rw[e,h3];exact this
end
def Ye(c:Nat):ByteArray:=if c=0 then ⟨#[68,85,77,77,89]⟩ else if c=1 then ⟨#[75,78,79,87,78]⟩ else if c=2 then ⟨#[85,78,75,78,79,87,78]⟩ else if c=3 then ⟨#[85,83,69,82]⟩ else ⟨#[]⟩
theorem Du(c:Nat)(hc:c<=3)(w:World):Calls Tryz.prog 79 #[.int .i64 (c:Int)] w λe w'=>e=.returned (.string (Ye c))/\Zf w w':=by
 rcases c with _|_|_|_|c
 ·go_enter Tryz.func79,Tryz.ntmps79
  go_wp2_with fail
  first|go_ret|go_ret2
  exact⟨rfl,Fl _⟩
 ·go_enter Tryz.func79,Tryz.ntmps79
  go_wp2_with fail
  first|go_ret|go_ret2
  exact⟨rfl,Fl _⟩
 ·go_enter Tryz.func79,Tryz.ntmps79
  go_wp2_with fail
  first|go_ret|go_ret2
  exact⟨rfl,Fl _⟩
 ·go_enter Tryz.func79,Tryz.ntmps79
  go_wp2_with fail
  first|go_ret|go_ret2
  exact⟨rfl,Fl _⟩
 ·omega
end
section
open Go.RowKit DT SS TR LT
theorem Lo{w:World}{rb kd:Nat}{pu:Option Addr}{idx:Nat}{id:Int}{cls pos st fi:Nat}{sf:ByteArray}(h:w.heap[rb]?=some (Zr kd pu ⟨idx,id,cls,pos,st,fi,sf⟩)) :
  w.cell? ⟨rb,0,none⟩=some (.int .i64 (idx:Int))/\w.cell? ⟨rb,1,none⟩=some (.int .i64 id)/\w.cell? ⟨rb,2,none⟩=some (.int .i64 (cls:Int))/\w.cell? ⟨rb,3,none⟩=some (.int .i64 (pos:Int))/\w.cell? ⟨rb,4,none⟩=some (.int .i64 (st:Int))/\w.cell? ⟨rb,5,none⟩=some (.int .i64 (fi:Int))/\w.cell? ⟨rb,6,none⟩=some (.string sf)/\w.cell? ⟨rb,7,none⟩=some (.pointer (some ⟨kd,0,none⟩))/\w.cell? ⟨rb,8,none⟩=some (.pointer pu)/\rb<w.heap.size :=
 ⟨cell_of h 0 _ rfl,cell_of h 1 _ rfl,cell_of h 2 _ rfl,cell_of h 3 _ rfl,cell_of h 4 _ rfl,cell_of h 5 _ rfl,cell_of h 6 _ rfl,cell_of h 7 _ rfl,cell_of h 8 _ rfl,(Gs1.1 h).1⟩
theorem Gg(t:Yw)(hc:t.cls=0\/t.cls=3)(kd:Nat)(pu:Option Addr)(key:ByteArray)(w:World):Calls Tryz.prog 124 #[.agg (Yh kd pu t).toArray,.string key] w λe w'=>e=.returned (Yp none)/\Zf w w':=by
 obtain⟨idx,id,cls,pos,st,fi,sf⟩:=t;simp only at hc;rcases hc with rfl|rfl
 ·go_enter Tryz.func124,Tryz.ntmps124
  go_wp2_with fail
  first|go_ret|go_ret2
  exact⟨rfl,(Fl _).alloc _⟩
 ·go_enter Tryz.func124,Tryz.ntmps124
  go_wp2_with fail
  first|go_ret|go_ret2
  exact⟨rfl,(Fl _).alloc _⟩
theorem Zk3{d:Zg}{us:List GRec}{t:Yw}{kd H U:Nat}{pu:Option Addr}{w:World}(ht:V8 d us t)(hc:t.cls=1)(key:ByteArray)(hD:Wv d us kd pu H U w) :
  Calls Tryz.prog 124 #[.agg (Yh kd pu t).toArray,.string key] w λe w'=>e=.returned (Yp ((Xu (Zj d.meta0) key).bind (Ql (Y2 d us t))))/\Zf w w':=by
 obtain⟨mm,_,hm1,hm2,_,_⟩:=hD.dict.marks;have hmk:=hD.marks.1;have hl:=Qf key (Zj d.meta0);have hb:∀ v,Xu (Zj d.meta0) key=some v->0<=v/\v<=100:=λv h=>by obtain⟨m,hm,rfl⟩:=Qe h;exact hmk m hm
 have X0:Zf w (w.alloc (Zr kd pu t)):=(Fl _).alloc _;have CF:Hid (∀ (W:World) (k:Int),Zf w W->k<=9223372036854775807->Calls Tryz.prog 163 #[.agg (Yh kd pu t).toArray,.int .i64 k] W λe w'=>e=.returned (Yp (Ql (Y2 d us t) k))/\Zf W w'):=λW k f hk=>Zec ht k hk (hD.ext f)
 have hm1:=X0.cell hm1 id;have HM:=Hd (hm2.keep X0 id);have lk:=lt_of_cell hm1;clear hm2 ht hD hmk;generalize Y2 d us t=fs at *;generalize Xo (Zj d.meta0)=L at *;generalize Xu (Zj d.meta0) key=a at *;obtain⟨idx,id,cls,pos,st,fi,sf⟩:=t;simp only at hc;subst hc;obtain⟨rb,hrb⟩:∃ rb,rb=w.heap.size:=⟨_,rfl⟩;have K1:(w.alloc (Zr kd pu ⟨idx,id,1,pos,st,fi,sf⟩)).heap[rb]?=some (Zr kd pu ⟨idx,id,1,pos,st,fi,sf⟩):=alloc_at' _ _ hrb;obtain⟨b0,b1,b2,b3,b4,b5,b6,b7,b8,lb⟩:=Lo K1;clear K1;go_enter Tryz.func124,Tryz.ntmps124
 go_upto_region 2 with fail
 have HX:=Hd X0;rw[<- hrb];clear hrb X0;generalize w.alloc _=W at *;rcases a with _|v
 ·simp only[Option.map_none]at hl
  go_wp2_with (first
   | (at_lookup;refine Zk rfl _ _ true rfl Uw Tryz.underlying102 Tryz.underlying9 (Qz _) rfl HM.out key rfl ?_;simp only[if_true,hl,Option.getD_none,Option.isSome_none])
   | fail)
  first|go_ret|go_ret2
  exact⟨rfl,HX.out⟩
 ·simp only[Option.map_some]at hl;have hv:=hb v rfl;have hw:IntKind.i64.wrap v=v:=by rw[IntKind.wrap_i64];omega
  clear hb
  go_upto_region 13 with (first
   | (at_lookup;refine Zk rfl _ _ true rfl Uw Tryz.underlying102 Tryz.underlying9 (Qz _) rfl HM.out key rfl ?_;simp only[if_true,hl,Option.getD_some,Option.isSome_some])
   | fail)
  go_wp2_with (first
   | (go_at_call 163;refine (CF.out W v HX.out Om).mono ?_;rintro e w5 ⟨rfl,hx5⟩;have HX5:=Hd (Z5 HX.out hx5);clear hx5)
   | fail)
  first|go_ret|go_ret2
  exact⟨rfl,HX5.out⟩
theorem Zk2{d:Zg}{us:List GRec}{t:Yw}{kd H U:Nat}{pu:Option Addr}{w:World}(ht:V8 d us t)(hc:t.cls=2)(key:ByteArray)(hD:Wv d us kd pu H U w) :
  Calls Tryz.prog 124 #[.agg (Yh kd pu t).toArray,.string key] w λe w'=>e=.returned (Yp ((Xu (Zj d.unkMeta) key).bind (Ql (Y2 d us t))))/\Zf w w':=by
 obtain⟨_,mm,_,_,hm1,hm2⟩:=hD.dict.marks;have hmk:=hD.marks.2;have hl:=Qf key (Zj d.unkMeta);have hb:∀ v,Xu (Zj d.unkMeta) key=some v->0<=v/\v<=100:=λv h=>by obtain⟨m,hm,rfl⟩:=Qe h;exact hmk m hm
 have X0:Zf w (w.alloc (Zr kd pu t)):=(Fl _).alloc _;have CF:Hid (∀ (W:World) (k:Int),Zf w W->k<=9223372036854775807->Calls Tryz.prog 163 #[.agg (Yh kd pu t).toArray,.int .i64 k] W λe w'=>e=.returned (Yp (Ql (Y2 d us t) k))/\Zf W w'):=λW k f hk=>Zec ht k hk (hD.ext f)
 have hm1:=X0.cell hm1 id;have HM:=Hd (hm2.keep X0 id);have lk:=lt_of_cell hm1;clear hm2 ht hD hmk;generalize Y2 d us t=fs at *;generalize Xo (Zj d.unkMeta)=L at *;generalize Xu (Zj d.unkMeta) key=a at *;obtain⟨idx,id,cls,pos,st,fi,sf⟩:=t;simp only at hc;subst hc;obtain⟨rb,hrb⟩:∃ rb,rb=w.heap.size:=⟨_,rfl⟩;have K1:(w.alloc (Zr kd pu ⟨idx,id,2,pos,st,fi,sf⟩)).heap[rb]?=some (Zr kd pu ⟨idx,id,2,pos,st,fi,sf⟩):=alloc_at' _ _ hrb;obtain⟨b0,b1,b2,b3,b4,b5,b6,b7,b8,lb⟩:=Lo K1;clear K1;go_enter Tryz.func124,Tryz.ntmps124
 go_upto_region 2 with fail
 have HX:=Hd X0;rw[<- hrb];clear hrb X0;generalize w.alloc _=W at *;rcases a with _|v
 ·simp only[Option.map_none]at hl
  go_wp2_with (first
   | (at_lookup;refine Zk rfl _ _ true rfl Uw Tryz.underlying102 Tryz.underlying9 (Qz _) rfl HM.out key rfl ?_;simp only[if_true,hl,Option.getD_none,Option.isSome_none])
   | fail)
  first|go_ret|go_ret2
  exact⟨rfl,HX.out⟩
 ·simp only[Option.map_some]at hl;have hv:=hb v rfl;have hw:IntKind.i64.wrap v=v:=by rw[IntKind.wrap_i64];omega
  clear hb
  go_upto_region 13 with (first
   | (at_lookup;refine Zk rfl _ _ true rfl Uw Tryz.underlying102 Tryz.underlying9 (Qz _) rfl HM.out key rfl ?_;simp only[if_true,hl,Option.getD_some,Option.isSome_some])
   | fail)
  go_wp2_with (first
   | (go_at_call 163;refine (CF.out W v HX.out Om).mono ?_;rintro e w5 ⟨rfl,hx5⟩;have HX5:=Hd (Z5 HX.out hx5);clear hx5)
   | fail)
  first|go_ret|go_ret2
  exact⟨rfl,HX5.out⟩
theorem Q9{d:Zg}{us:List GRec}{t:Yw}{kd H U:Nat}{pu:Option Addr}{w:World}(ht:V8 d us t)(key:ByteArray)(hD:Wv d us kd pu H U w) :
  Calls Tryz.prog 124 #[.agg (Yh kd pu t).toArray,.string key] w λe w'=>e=.returned (Yp (Zo d us t key))/\Zf w w':=by
 rcases ht.cases with e|⟨i,e,_⟩|⟨i,e,_⟩|⟨i,e,_⟩
 ·have:=Gg t (.inl e) kd pu key w;unfold Zo;rw[e];exact this
 ·have:=Zk3 ht e key hD;unfold Zo;rw[e];exact this
 ·have:=Zk2 ht e key hD;unfold Zo;rw[e];exact this
 ·have:=Gg t (.inr e) kd pu key w;unfold Zo;rw[e];exact this
abbrev V6:ByteArray:=⟨#[95,98,97,115,101]⟩
abbrev V4:ByteArray:=⟨#[95,114,101,97,100,105,110,103]⟩
abbrev V5:ByteArray:=⟨#[95,112,114,111,110,117,110,99,105,97,116,105,111,110]⟩
abbrev J8:ByteArray:=⟨#[95,105,110,102,108,101,99,116,105,111,110,97,108,95,116,121,112,101]⟩
abbrev Pf:ByteArray:=⟨#[95,105,110,102,108,101,99,116,105,111,110,97,108,95,102,111,114,109]⟩
theorem L9{d:Zg}{us:List GRec}{t:Yw}{kd H U:Nat}{pu:Option Addr}{w:World}(ht:V8 d us t)(hD:Wv d us kd pu H U w) :
  Calls Tryz.prog 73 #[.agg (Yh kd pu t).toArray] w λe w'=>e=.returned (Yp (Zo d us t V6))/\Zf w w':=by
 have X0:Zf w (w.alloc (Zr kd pu t)):=(Fl _).alloc _;have CF:=Hd (Q9 ht V6 (hD.ext X0));clear ht hD;generalize Zo d us t V6=res at *;obtain⟨idx,id,cls,pos,st,fi,sf⟩:=t;obtain⟨rb,hrb⟩:∃ rb,rb=w.heap.size:=⟨_,rfl⟩;obtain⟨b0,b1,b2,b3,b4,b5,b6,b7,b8,lb⟩:=Lo (alloc_at' w (Zr kd pu ⟨idx,id,cls,pos,st,fi,sf⟩) hrb);go_enter Tryz.func73,Tryz.ntmps73
 go_upto_region 1 with fail
 have HX:=Hd X0;rw[<- hrb];clear hrb X0;generalize w.alloc _=W at *
 go_wp2_with (first
  | (go_at_call 124;refine CF.out.mono ?_;rintro e w5 ⟨rfl,hx5⟩;have HX5:=Hd (Z5 HX.out hx5);clear hx5)
  | fail)
 first|go_ret|go_ret2
 exact⟨rfl,HX5.out⟩
theorem L7{d:Zg}{us:List GRec}{t:Yw}{kd H U:Nat}{pu:Option Addr}{w:World}(ht:V8 d us t)(hD:Wv d us kd pu H U w) :
  Calls Tryz.prog 74 #[.agg (Yh kd pu t).toArray] w λe w'=>e=.returned (Yp (Zo d us t V4))/\Zf w w':=by
 have X0:Zf w (w.alloc (Zr kd pu t)):=(Fl _).alloc _;have CF:=Hd (Q9 ht V4 (hD.ext X0));clear ht hD;generalize Zo d us t V4=res at *;obtain⟨idx,id,cls,pos,st,fi,sf⟩:=t;obtain⟨rb,hrb⟩:∃ rb,rb=w.heap.size:=⟨_,rfl⟩;obtain⟨b0,b1,b2,b3,b4,b5,b6,b7,b8,lb⟩:=Lo (alloc_at' w (Zr kd pu ⟨idx,id,cls,pos,st,fi,sf⟩) hrb);go_enter Tryz.func74,Tryz.ntmps74
 go_upto_region 1 with fail
 have HX:=Hd X0;rw[<- hrb];clear hrb X0;generalize w.alloc _=W at *
 go_wp2_with (first
  | (go_at_call 124;refine CF.out.mono ?_;rintro e w5 ⟨rfl,hx5⟩;have HX5:=Hd (Z5 HX.out hx5);clear hx5)
  | fail)
 first|go_ret|go_ret2
 exact⟨rfl,HX5.out⟩
theorem L8{d:Zg}{us:List GRec}{t:Yw}{kd H U:Nat}{pu:Option Addr}{w:World}(ht:V8 d us t)(hD:Wv d us kd pu H U w) :
  Calls Tryz.prog 75 #[.agg (Yh kd pu t).toArray] w λe w'=>e=.returned (Yp (Zo d us t V5))/\Zf w w':=by
 have X0:Zf w (w.alloc (Zr kd pu t)):=(Fl _).alloc _;have CF:=Hd (Q9 ht V5 (hD.ext X0));clear ht hD;generalize Zo d us t V5=res at *;obtain⟨idx,id,cls,pos,st,fi,sf⟩:=t;obtain⟨rb,hrb⟩:∃ rb,rb=w.heap.size:=⟨_,rfl⟩;obtain⟨b0,b1,b2,b3,b4,b5,b6,b7,b8,lb⟩:=Lo (alloc_at' w (Zr kd pu ⟨idx,id,cls,pos,st,fi,sf⟩) hrb);go_enter Tryz.func75,Tryz.ntmps75
 go_upto_region 1 with fail
 have HX:=Hd X0;rw[<- hrb];clear hrb X0;generalize w.alloc _=W at *
 go_wp2_with (first
  | (go_at_call 124;refine CF.out.mono ?_;rintro e w5 ⟨rfl,hx5⟩;have HX5:=Hd (Z5 HX.out hx5);clear hx5)
  | fail)
 first|go_ret|go_ret2
 exact⟨rfl,HX5.out⟩
theorem Zcr{d:Zg}{us:List GRec}{t:Yw}{kd H U:Nat}{pu:Option Addr}{w:World}(ht:V8 d us t)(hD:Wv d us kd pu H U w) :
  Calls Tryz.prog 76 #[.agg (Yh kd pu t).toArray] w λe w'=>e=.returned (Yp (Zo d us t J8))/\Zf w w':=by
 have X0:Zf w (w.alloc (Zr kd pu t)):=(Fl _).alloc _;have CF:=Hd (Q9 ht J8 (hD.ext X0));clear ht hD;generalize Zo d us t J8=res at *;obtain⟨idx,id,cls,pos,st,fi,sf⟩:=t;obtain⟨rb,hrb⟩:∃ rb,rb=w.heap.size:=⟨_,rfl⟩;obtain⟨b0,b1,b2,b3,b4,b5,b6,b7,b8,lb⟩:=Lo (alloc_at' w (Zr kd pu ⟨idx,id,cls,pos,st,fi,sf⟩) hrb);go_enter Tryz.func76,Tryz.ntmps76
 go_upto_region 1 with fail
 have HX:=Hd X0;rw[<- hrb];clear hrb X0;generalize w.alloc _=W at *
 go_wp2_with (first
  | (go_at_call 124;refine CF.out.mono ?_;rintro e w5 ⟨rfl,hx5⟩;have HX5:=Hd (Z5 HX.out hx5);clear hx5)
  | fail)
 first|go_ret|go_ret2
 exact⟨rfl,HX5.out⟩
theorem Za0{d:Zg}{us:List GRec}{t:Yw}{kd H U:Nat}{pu:Option Addr}{w:World}(ht:V8 d us t)(hD:Wv d us kd pu H U w) :
  Calls Tryz.prog 77 #[.agg (Yh kd pu t).toArray] w λe w'=>e=.returned (Yp (Zo d us t Pf))/\Zf w w':=by
 have X0:Zf w (w.alloc (Zr kd pu t)):=(Fl _).alloc _;have CF:=Hd (Q9 ht Pf (hD.ext X0));clear ht hD;generalize Zo d us t Pf=res at *;obtain⟨idx,id,cls,pos,st,fi,sf⟩:=t;obtain⟨rb,hrb⟩:∃ rb,rb=w.heap.size:=⟨_,rfl⟩;obtain⟨b0,b1,b2,b3,b4,b5,b6,b7,b8,lb⟩:=Lo (alloc_at' w (Zr kd pu ⟨idx,id,cls,pos,st,fi,sf⟩) hrb);go_enter Tryz.func77,Tryz.ntmps77
 go_upto_region 1 with fail
 have HX:=Hd X0;rw[<- hrb];clear hrb X0;generalize w.alloc _=W at *
 go_wp2_with (first
  | (go_at_call 124;refine CF.out.mono ?_;rintro e w5 ⟨rfl,hx5⟩;have HX5:=Hd (Z5 HX.out hx5);clear hx5)
  | fail)
 first|go_ret|go_ret2
 exact⟨rfl,HX5.out⟩
theorem Rv(s:ByteArray)(b:Bool)(w:World):Calls Tryz.prog 72 #[.string s,.bool b] w λe w'=>e=.returned (.agg #[.string s,.bool b])/\Zf w w':=by
 go_enter Tryz.func72,Tryz.ntmps72
 go_wp2_with fail
 have X:Zf w (w.alloc (.cells #[.string s,.bool b] 64)):=(Fl w).alloc _;have z0:(w.alloc (.cells #[.string s,.bool b] 64)).cell? ⟨w.heap.size,0,none⟩=some (.string s):=cell_of (alloc_at w _) 0 _ rfl;have z1:(w.alloc (.cells #[.string s,.bool b] 64)).cell? ⟨w.heap.size,1,none⟩=some (.bool b):=cell_of (alloc_at w _) 1 _ rfl;generalize w.alloc _=W at *;refine bodyPost_ret (by simp[results,Tryz.results72,z0,z1,go_sem];try rfl) rfl ?_;exact⟨rfl,X⟩
end
section
open Go.RowKit DT SS TR LT
def D8(w:World)(B:Nat)(x:Option (List ByteArray×List ByteArray))(v:Value):Prop :=
 match x with
 | none=>v=.pointer none
 | some (a,b)=>∃ g v1 v2,v=.pointer (some ⟨g,0,none⟩)/\w.cell? ⟨g,0,none⟩=some v1/\w.cell? ⟨g,1,none⟩=some v2/\B<=g/\strs.R w (λj=>B<=j) a [v1]/\strs.R w (λj=>B<=j) b [v2]
def Pk(us:List GRec)(t:Yw):Option (List ByteArray×List ByteArray):=if t.cls=3 then some ((rOf us t).tokens,(rOf us t).yomi) else none
theorem O5(t:Yw)(hc:t.cls=0\/t.cls=1\/t.cls=2)(kd:Nat)(pu:Option Addr)(w:World):Calls Tryz.prog 80 #[.agg (Yh kd pu t).toArray] w λe w'=>e=.returned (.pointer none)/\Zf w w':=by
 obtain⟨idx,id,cls,pos,st,fi,sf⟩:=t;simp only at hc;rcases hc with rfl|rfl|rfl
 ·go_enter Tryz.func80,Tryz.ntmps80
  go_wp2_with fail
  first|go_ret|go_ret2
  exact⟨rfl,(Fl _).alloc _⟩
 ·go_enter Tryz.func80,Tryz.ntmps80
  go_wp2_with fail
  first|go_ret|go_ret2
  exact⟨rfl,(Fl _).alloc _⟩
 ·go_enter Tryz.func80,Tryz.ntmps80
  go_wp2_with fail
  first|go_ret|go_ret2
  exact⟨rfl,(Fl _).alloc _⟩
theorem Zcw(d:Zg)(us:List GRec)(t:Yw)(i:Nat)(hid:t.id=i)(hc:t.cls=3)(hi:i<us.length)(kd H U:Nat)(pu:Option Addr)(w:World)(hD:Wv d us kd pu H U w) :
  Calls Tryz.prog 80 #[.agg (Yh kd pu t).toArray] w λe w'=>∃ v,e=.returned v/\D8 w' w.heap.size (some (us[i].tokens,us[i].yomi)) v/\Zf w w':=by
 have mixed:Tryz.prog.follows .mixedOrders=true:=Kr
 obtain⟨ku,n,C,oC,cC,ca,cb,A,B,rfl,hin,K0,hA,hB,hfew,hps⟩:=Fw hD t i hid hc hi;generalize us[i]=x at *;clear hD hi;obtain⟨idx,id,cls,pos,st,fi,sf⟩:=t;simp only at hid hc;subst hid hc;obtain⟨rb,hrb⟩:∃ rb,rb=w.heap.size:=⟨_,rfl⟩;have X0:Zf w (w.alloc (Zr kd (some ⟨ku,0,none⟩) ⟨idx,i,3,pos,st,fi,sf⟩)):=(Fl _).alloc _;rw[<- hrb]at K0;go_enter Tryz.func80,Tryz.ntmps80
 go_upto_region 1 with fail
 have H0:=Hd (Ai1 X0 (Ai1 (strs.ext hA X0) (strs.ext hB X0)));rw[<- hrb];have HF:Hid (∀ W',Zf w W'->(rb<W'.heap.size->True)):=λ_ _ _=>trivial
 have HF:Hid (∀ W',Zf (w.alloc (Zr kd (some ⟨ku,0,none⟩) ⟨idx,i,3,pos,st,fi,sf⟩)) W'->UsF x i ku rb n C oC cC ca cb A B W'):=λW' f=>K0.ext f
 clear hA hB hrb X0 K0;generalize w.alloc _=W at *;have HFW:=Hd (Ai1 (Nt (Mu x.tokens) hfew.2.2.1) (Nt (Mu x.yomi) hfew.2.2.2));clear hfew;have hiz:(i:Int)<(n:Int):=Om
 have hi0:(0:Int)<=(i:Int):=Om
 obtain⟨c1,c2,c3,c4,b1,b2,b8,lb,lk⟩:=HF.out W (Fl _);have hmk:∀ W:World,(Instr.makeSlice 34 (.int .i64 (x.tokens.length:Int)) (.int .i64 (x.tokens.length:Int))).run Tryz.prog W=.ok (.slice (some ⟨W.heap.size,0,none⟩) x.tokens.length x.tokens.length) (W.alloc (.cells (madeCells #[.string ⟨#[]⟩] x.tokens.length) 9)):=λW=>La x.tokens.length x.tokens.length (Nl _) (by have:=HFW.out;omega) W
 go_upto_region 3 with fail
 go_still_tail 11,Kr
 change wpList _ _ _ _ _ W.drew;go_wp2_with fail
 obtain⟨N,hN⟩:∃ N,N=W.heap.size:=⟨_,rfl⟩;rw[<- hN];have F2:Zf W (W.alloc (.cells (madeCells #[.string ⟨#[]⟩] x.tokens.length) 9)).drew:=((Fl W).alloc _).drew;have K2:(W.alloc (.cells (madeCells #[.string ⟨#[]⟩] x.tokens.length) 9)).drew.heap[N]?=some (.cells (madeCells #[.string ⟨#[]⟩] x.tokens.length) 9 (0,0)):=alloc_at' _ _ hN;have hNwN:w.heap.size<=N:=by rw[hN];exact H0.out.1.size
 have hNW:W.heap.size<=N:=Om
 clear hN hmk c1 c2 c3 c4 b1 b2 b8 lb lk;obtain⟨c1,c2,c3,c4,b1,b2,b8,lb,lk⟩:=HF.out _ F2;have HK2:=Hd (Ai1 F2 K2);have HS:=Hd (strs.ext H0.out.2.1 F2);clear F2 K2;generalize (W.alloc _).drew=W2 at *;go_upto_region 4 with fail
 go_still_tail 11,Kr
 change wpList _ _ _ _ _ W2.drew
 have hsp:(0:Nat)<((x.tokens.map Value.string)).length->some (⟨N,0,none⟩:Addr)=some ⟨N,0,none⟩/\∃ ad,A=some ad/\∀ j v,(x.tokens.map Value.string)[j]?=some v->W2.drew.cell? (ad.add j)=some v:=λh0=>by
  obtain⟨b,o,e,_,hcc⟩:=Y9 HS.out (λe=>by rw[e]at h0;simp at h0);exact⟨rfl,_,e,hcc⟩
 refine wpList_copy_splice rfl _ _ 34 34 rfl 9 Tryz.underlying34 Kr (some ⟨N,0,none⟩) A x.tokens.length x.tokens.length x.tokens.length ca rfl rfl N 0 (madeCells #[.string ⟨#[]⟩] x.tokens.length).toList 9 HK2.out.2 (x.tokens.map Value.string) (by simp) hsp (by rw[List.length_map];simp[madeCells]) (by intro y hy;obtain⟨z,_,rfl⟩:=List.mem_map.1 hy;rfl) N W2.drew (Below.refl _ _) (Nl _) ?_;intro W3 h7 hb7;rw[Ot _ _ (by simp[madeCells])]at h7;rw[List.length_map];have X3:Zf W W3:=Fr.of_below ((Fr.below HK2.out.1).drew.trans (hb7.mono hNW));have E1:=Hd (strs.mono (O':=λj=>w.heap.size<=j) (λj _ hj=>Nt hNwN hj) (Ub h7.out rfl (λs hs=>Tc HS.out s hs) (by have:=HFW.out;omega)));have H1:=Hd (Ai1 (Z5 H0.out.1 X3) (Ai1 (strs.ext H0.out.2.1 X3) (strs.ext H0.out.2.2 X3)));have HF:Hid (∀ W',Zf W3 W'->UsF x i ku rb n C oC cC ca cb A B W'):=λW' f=>HF.out W' (Z5 X3 f)
 have XX1:=Hd X3;clear HK2 HS H0 hsp c1 c2 c3 c4 b1 b2 b8 lb lk hb7 h7 X3;obtain⟨c1,c2,c3,c4,b1,b2,b8,lb,lk⟩:=HF.out W3 (Fl _);have hmk:∀ W:World,(Instr.makeSlice 34 (.int .i64 (x.yomi.length:Int)) (.int .i64 (x.yomi.length:Int))).run Tryz.prog W=.ok (.slice (some ⟨W.heap.size,0,none⟩) x.yomi.length x.yomi.length) (W.alloc (.cells (madeCells #[.string ⟨#[]⟩] x.yomi.length) 9)):=λW=>La x.yomi.length x.yomi.length (Nl _) (by have:=HFW.out;omega) W
 go_upto_region 5 with fail
 go_still_tail 11,Kr
 change wpList _ _ _ _ _ W3.drew;go_wp2_with fail
 obtain⟨M,hN⟩:∃ M,M=W3.heap.size:=⟨_,rfl⟩;rw[<- hN];have F2:Zf W3 (W3.alloc (.cells (madeCells #[.string ⟨#[]⟩] x.yomi.length) 9)).drew:=((Fl W3).alloc _).drew;have K2:(W3.alloc (.cells (madeCells #[.string ⟨#[]⟩] x.yomi.length) 9)).drew.heap[M]?=some (.cells (madeCells #[.string ⟨#[]⟩] x.yomi.length) 9 (0,0)):=alloc_at' _ _ hN;have hNwM:w.heap.size<=M:=by rw[hN];exact H1.out.1.size
 have hNW:W3.heap.size<=M:=Om
 clear hN hmk c1 c2 c3 c4 b1 b2 b8 lb lk;obtain⟨c1,c2,c3,c4,b1,b2,b8,lb,lk⟩:=HF.out _ F2;have HK2:=Hd (Ai1 F2 K2);have HS:=Hd (strs.ext H1.out.2.2 F2);clear F2 K2;generalize (W3.alloc _).drew=W5 at *;go_upto_region 6 with fail
 go_still_tail 11,Kr
 change wpList _ _ _ _ _ W5.drew
 have hsp:(0:Nat)<((x.yomi.map Value.string)).length->some (⟨M,0,none⟩:Addr)=some ⟨M,0,none⟩/\∃ ad,B=some ad/\∀ j v,(x.yomi.map Value.string)[j]?=some v->W5.drew.cell? (ad.add j)=some v:=λh0=>by
  obtain⟨b,o,e,_,hcc⟩:=Y9 HS.out (λe=>by rw[e]at h0;simp at h0);exact⟨rfl,_,e,hcc⟩
 refine wpList_copy_splice rfl _ _ 34 34 rfl 9 Tryz.underlying34 Kr (some ⟨M,0,none⟩) B x.yomi.length x.yomi.length x.yomi.length cb rfl rfl M 0 (madeCells #[.string ⟨#[]⟩] x.yomi.length).toList 9 HK2.out.2 (x.yomi.map Value.string) (by simp) hsp (by rw[List.length_map];simp[madeCells]) (by intro y hy;obtain⟨z,_,rfl⟩:=List.mem_map.1 hy;rfl) M W5.drew (Below.refl _ _) (Nl _) ?_;intro W6 h7 hb7;rw[Ot _ _ (by simp[madeCells])]at h7;rw[List.length_map];have X3:Zf W3 W6:=Fr.of_below ((Fr.below HK2.out.1).drew.trans (hb7.mono hNW));have E2:=Hd (strs.mono (O':=λj=>w.heap.size<=j) (λj _ hj=>Nt hNwM hj) (Ub h7.out rfl (λs hs=>Tc HS.out s hs) (by have:=HFW.out;omega)));have H2:=Hd (Ai1 (Z5 H1.out.1 X3) (Ai1 (strs.ext H1.out.2.1 X3) (strs.ext H1.out.2.2 X3)));have HF:Hid (∀ W',Zf W6 W'->UsF x i ku rb n C oC cC ca cb A B W'):=λW' f=>HF.out W' (Z5 X3 f)
 have XX2:=Hd X3;clear HK2 HS H1 hsp c1 c2 c3 c4 b1 b2 b8 lb lk hb7 h7 X3;obtain⟨c1,c2,c3,c4,b1,b2,b8,lb,lk⟩:=HF.out W6 (Fl _);clear HF HFW;go_upto_region 7 with fail
 go_wp2_with fail
 have X9:Zf w (W6.alloc (.cells #[.slice (some ⟨N,0,none⟩) x.tokens.length x.tokens.length,.slice (some ⟨M,0,none⟩) x.yomi.length x.yomi.length] 146)):=Z5 H2.out.1 ((Fl _).alloc _);have z0:=cell_of (alloc_at W6 (.cells #[.slice (some ⟨N,0,none⟩) x.tokens.length x.tokens.length,.slice (some ⟨M,0,none⟩) x.yomi.length x.yomi.length] 146)) 0 _ rfl;have z1:=cell_of (alloc_at W6 (.cells #[.slice (some ⟨N,0,none⟩) x.tokens.length x.tokens.length,.slice (some ⟨M,0,none⟩) x.yomi.length x.yomi.length] 146)) 1 _ rfl;first|go_ret|go_ret2
 exact⟨_,rfl,⟨_,_,_,rfl,z0,z1,H2.out.1.size,strs.ext E1.out (Z5 XX2.out ((Fl _).alloc _)),strs.ext E2.out ((Fl _).alloc _)⟩,X9⟩
theorem Zga{d:Zg}{us:List GRec}{t:Yw}{kd H U:Nat}{pu:Option Addr}{w:World}(ht:V8 d us t)(hD:Wv d us kd pu H U w) :
  Calls Tryz.prog 80 #[.agg (Yh kd pu t).toArray] w λe w'=>∃ v,e=.returned v/\D8 w' w.heap.size (Pk us t) v/\Zf w w':=by
 unfold Pk;rcases ht.cases with e|⟨i,e,_⟩|⟨i,e,_⟩|⟨i,e,h1,h2,h3⟩
 ·rw[if_neg Om];exact (O5 t (.inl e) kd pu w).mono λ_ _ h=>⟨_,h.1,rfl,h.2⟩
 ·rw[if_neg Om];exact (O5 t (.inr (.inl e)) kd pu w).mono λ_ _ h=>⟨_,h.1,rfl,h.2⟩
 ·rw[if_neg Om];exact (O5 t (.inr (.inr e)) kd pu w).mono λ_ _ h=>⟨_,h.1,rfl,h.2⟩
 ·rw[if_pos e,h3];exact Zcw d us t i h1 e h2 kd H U pu w hD
end
end Go.Proofs.YtlfoalomaofejaaGreatDoor
