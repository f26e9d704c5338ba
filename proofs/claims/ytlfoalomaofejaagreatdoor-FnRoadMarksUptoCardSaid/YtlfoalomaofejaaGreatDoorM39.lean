/- What a dictionary in memory te -/
import Derived.Test.YtlfoalomaofejaaGreatDoorM38
import Derived.Laws.CopyOwn
set_option linter.all false
set_option maxRecDepth 100000
set_option maxHeartbeats 2000000
namespace Go.Proofs.YtlfoalomaofejaaGreatDoor
section
open Go.RowKit DT SS TR
theorem Ln:∀ {l:List ByteArray} {s:ByteArray} {k:Nat},Wb l s=some k->l[k]?=some s
 | a::l,s,k,h=>by
  unfold Wb at h
  split at h
  ·next e=>cases h;rw[e];rfl
  ·cases q:Wb l s with
   | none=>rw[q]at h;cases h
   | some m =>
    rw[q]at h;cases h;have:=Ln q;simpa using this
theorem Im:∀ {l:List ByteArray} {s:ByteArray},s∈l->∃ k,Wb l s=some k
 | a::l,s,h=>by
  unfold Wb;by_cases e:a=s
  ·exact⟨0,by rw[if_pos e]⟩
  ·obtain⟨k,z⟩:=Im (l:=l) (s:=s) ((List.mem_cons.1 h).resolve_left (λq=>e q.symm));exact⟨k+1,by rw[if_neg e,z];rfl⟩
theorem Zb7(ns:List ByteArray)(s:ByteArray):ns <+: Xo ns s/\s∈Xo ns s:=by
 unfold Xo
 split
 ·next h =>
  obtain⟨k,q⟩:=Option.isSome_iff_exists.1 h;exact⟨List.prefix_refl _,List.mem_of_getElem? (Ln q)⟩
 ·exact⟨List.prefix_append _ _,by simp⟩
theorem Nn:∀ (p ns:List ByteArray),ns <+: Wh ns p/\∀ s∈p,s∈Wh ns p
 | [],ns=>⟨List.prefix_refl _,λ_ h=>by cases h⟩
 | a::p,ns=>by
  obtain⟨h1,h2⟩:=Nn p (Xo ns a);obtain⟨h3,h4⟩:=Zb7 ns a;refine⟨h3.trans h1,λs q=>?_⟩;rcases List.mem_cons.1 q with rfl|q
  ·exact h1.subset h4
  ·exact h2 s q
theorem Ki(ws:List GWord)(i:Nat):∀ k,Z8 ws i <+: Z8 ws (i+k)
 | 0=>List.prefix_refl _
 | k+1=>(Ki ws i k).trans (Nn _ _).1
abbrev Jl(ws:List GWord):List ByteArray:=Z8 ws ws.length
theorem Zjr(ws:List GWord)(i:Nat)(hi:i<ws.length)(j:Nat)(z:j<ws[i].pos.length):∃ k,(Uw (Z8 ws i) ws[i].pos)[j]?=some (((k:Nat):Int)+1)/\(Jl ws)[k]?=some ws[i].pos[j]:=by
 obtain⟨k,q⟩:=Im ((Nn ws[i].pos (Z8 ws i)).2 _ (List.getElem_mem z));refine⟨k,by simp only[Uw,List.getElem?_map,Ge z,Option.map_some,q,Option.getD_some],?_⟩;have h1:=Ln q;rw[<- Mb ws i hi]at h1;obtain⟨t,h⟩:=Ki ws (i+1) (ws.length-(i+1));rw[(Om:i+1+(ws.length-(i+1))=ws.length)]at h;show (Z8 ws ws.length)[k]?=_;rw[<- h,List.getElem?_append_left (Gl.1 h1).1];exact h1
theorem G7(ws:List GWord):∀ (k i:Nat) (_:i<k) (hi:i<ws.length),k<=ws.length->(Qx ws k)[i]?=some (Uw (Z8 ws i) ws[i].pos)
 | k+1,i,h,hi,hk=>by
  show (Qx ws k++[Uw (Z8 ws k) (ws.getD k default).pos])[i]?=_;rcases Nat.lt_or_ge i k with q|q
  ·rw[List.getElem?_append_left (by rw[Wp];exact q)];exact G7 ws k i q hi Om
  ·have:i=k:=Om;subst this;rw[List.getElem?_append_right (by rw[Wp];exact Nl _),Wp,Nat.sub_self,List.getD_eq_getElem?_getD,Ge hi];rfl
theorem Dm{α:Type}{d:Ty α}{T:TypeId}{v:Value}{xs:List α}{F:Nat->Prop}{w:World}(h:(rowD d T v xs).P F w)(i:Nat)(hi:i<xs.length):∃ g c u,v=.slice (some ⟨g,0,none⟩) xs.length c/\w.cell? ⟨g,i,none⟩=some u/\d.R w F xs[i] [u]:=by
 obtain⟨cs,I,A,_,h1⟩:=h;obtain⟨g,c,e,G,_⟩:=Tx A i Om;have z:i<cs.length:=Om
 exact⟨g,c,cs[i],e,by rw[G];exact Ge z,d.mono (λ_ _ q=>q.1) (h1 i hi z)⟩
section
variable{d:Zg}{kd H U:Nat}{w:World}
theorem Zz.pos(h:Zz d kd H U w)(i:Nat)(hi:i<(Zw d).length):∃ P V Q M I,w.cell? ⟨kd,1,none⟩=some (.slice (some ⟨P,0,none⟩) (Zw d).length V)/\w.cell? ⟨P,i,none⟩=some (.slice Q (Zw d)[i].pos.length M) /\
  w.cell? ⟨kd,2,none⟩=some (.slice (some ⟨I,0,none⟩) ((Jl (Zw d)).length+1) ((Jl (Zw d)).length+1)) /\
  ∀ j (X:j<(Zw d)[i].pos.length),∃ b o k,Q=some ⟨b,o,none⟩/\w.cell? ⟨b,o+j,none⟩=some (.int .u16 (((k:Nat):Int)+1))/\k<(Jl (Zw d)).length/\w.cell? ⟨I,k+1,none⟩=some (.string (Zw d)[i].pos[j]):=by
 obtain⟨mm,cc,mp,I,g,n,mb,ko,mi,md,mu,vk,v0,v1,v4,v7,ab,v12,aa,u0,u4,h⟩:=h;obtain⟨F0,Y,_⟩:=h.get 0 (by simp[Zt,Z4,Zn]);obtain⟨F,h1,_⟩:=h.get 6 (by simp[Zt,Z4,Zn]);obtain⟨F2,h2,_⟩:=h.get 8 (by simp[Zt,Z4,Zn]);obtain⟨P,V,u,e,hc,W⟩:=Dm (xs:=Qx (Zw d) (Zw d).length) h1 i (by rw[Wp];exact hi)
 have hx:(Qx (Zw d) (Zw d).length)[i]'(by rw[Wp];exact hi)=Uw (Z8 (Zw d) i) (Zw d)[i].pos:=by
  have:=G7 (Zw d) (Zw d).length i hi hi (Nl _);rw[Ge (by rw[Wp];exact hi)]at this;exact Option.some.inj this
 rw[hx]at W;have hl:(Uw (Z8 (Zw d) i) (Zw d)[i].pos).length=(Zw d)[i].pos.length:=by simp[Uw]
 obtain⟨Q,M,Z,_,_,L⟩:=W;rw[hl]at Z;cases Z;rw[Wp]at e;refine⟨P,V,Q,M,I,by rw[<- e];exact Zb Y.1 1 _ rfl,hc,Zb Y.1 2 _ rfl,λj X=>?_⟩;obtain⟨k,G,A⟩:=Zjr (Zw d) i hi j X;have z:=(Gl.1 A).1;rcases L.2 with q|⟨b,o,rfl,_,_,J⟩
 ·rw[q]at hl;simp at hl;omega
 ·obtain⟨cs,⟨rfl,_⟩,K⟩:=J j Om;have:=K 0 (by simp);have e1:o+j*tId.sz+0=o+j:=by show o+j*1+0=_;omega
  rw[e1]at this;refine⟨b,o,k,rfl,?_,z,?_⟩
  ·rw[this];rw[Ge Om]at G;show some (Value.int .u16 _)=_;rw[Option.some.inj G]
  ·rw[h2.1.cell (Nat.succ_lt_succ z)];unfold Za0;rw[if_neg Om,(Om:k.succ-1=k),List.getD_eq_getElem?_getD,A];rfl
theorem Zz.conts(h:Zz d kd H U w)(i:Nat)(hi:i<(Zw d).length):∃ C G R z,w.cell? ⟨kd,4,none⟩=some (.slice (some ⟨C,0,none⟩) (Zw d).length G)/\w.cell? ⟨C,i,none⟩=some (.slice R (Zw d)[i].contents.length z)/\strs.R w (λj=>H<=j/\j<U) (Zw d)[i].contents [.slice R (Zw d)[i].contents.length z]:=by
 obtain⟨mm,cc,mp,gl,g,n,mb,ko,mi,md,mu,V,v0,X,v4,W,J,v12,I,Z,Y,h⟩:=h;obtain⟨F0,L,_⟩:=h.get 0 (by simp[Zt,Z4,Zn]);obtain⟨F,h1,h2⟩:=h.get 7 (by simp[Zt,Z4,Zn]);obtain⟨C,G,u,e,K,A⟩:=Dm (xs:=(Zw d).map GWord.contents) h1 i (by simpa using hi);rw[List.getElem_map]at A;rw[List.length_map]at e;obtain⟨R,z,M,r1⟩:=id A;cases M;exact⟨C,G,R,z,by rw[<- e];exact Zb L.1 4 _ rfl,K,strs.mono (λk _ q=>h2 k q) A⟩
theorem Zz.unkConts(h:Zz d kd H U w)(i:Nat)(hi:i<(Ze d).length):∃ C I R z,w.cell? ⟨kd,18,none⟩=some (.slice (some ⟨C,0,none⟩) (Ze d).length I)/\w.cell? ⟨C,i,none⟩=some (.slice R (Ze d)[i].contents.length z)/\strs.R w (λj=>H<=j/\j<U) (Ze d)[i].contents [.slice R (Ze d)[i].contents.length z]:=by
 obtain⟨mm,cc,mp,gl,g,n,mb,ko,mi,md,mu,Y,v0,v1,v4,Z,K,v12,J,u0,L,h⟩:=h;obtain⟨F0,W,_⟩:=h.get 0 (by simp[Zt,Z4,Zn]);obtain⟨F,h1,h2⟩:=h.get 19 (by simp[Zt,Z4,Zn]);have hl:=Wo (d:=d);have M:((Ze d).take d.unknown.length).map GUnk.contents=(Ze d).map GUnk.contents:=by rw[<- hl,List.take_length]
 have G:(rowD strs 34 L ((Ze d).map GUnk.contents)).P F w:=by rw[<- M];exact h1
 obtain⟨C,I,u,e,V,A⟩:=Dm (xs:=(Ze d).map GUnk.contents) G i (by simpa using hi);rw[List.getElem_map]at A;rw[List.length_map]at e;obtain⟨R,z,X,r1⟩:=id A;cases X;exact⟨C,I,R,z,by rw[<- e];exact Zb W.1 18 _ rfl,V,strs.mono (λk _ q=>h2 k q) A⟩
theorem Zz.marks(h:Zz d kd H U w):∃ z q,w.cell? ⟨kd,3,none⟩=some (.map (some z))/\Zq Yi z (Xj (Zj d.meta0)) w/\w.cell? ⟨kd,17,none⟩=some (.map (some q))/\Zq Yi q (Xj (Zj d.unkMeta)) w:=by
 obtain⟨z,cc,W,gl,g,n,Z,ko,X,Y,q,J,v0,L,v4,K,I,v12,G,V,M,h⟩:=h;obtain⟨F0,A,_⟩:=h.get 0 (by simp[Zt,Z4,Zn]);obtain⟨F,h1,_⟩:=h.get 1 (by simp[Zt,Z4,Zn]);obtain⟨F2,h2,_⟩:=h.get 18 (by simp[Zt,Z4,Zn]);exact⟨z,q,Zb A.1 3 _ rfl,h1.1,Zb A.1 17 _ rfl,h2.1⟩
end
end
section
open Go.RowKit DT SS TR LT
def Ps(xs:List ByteArray):ByteArray:=⟨(Lib.join (xs.map (·.data.toList)) [47]).toArray⟩
def wOf(d:Zg)(t:Y0):GWord:=(Zw d).getD t.id.toNat default
def uOf(d:Zg)(t:Y0):GUnk:=(Ze d).getD t.id.toNat default
def rOf(us:List GRec)(t:Y0):GRec:=us.getD t.id.toNat default
def Y8(d:Zg)(us:List GRec)(t:Y0):List ByteArray :=
 if t.cls=1 then (wOf d t).pos++(wOf d t).contents else if t.cls=2 then (uOf d t).contents else if t.cls=3 then [(rOf us t).pos,Ps (rOf us t).tokens,Ps (rOf us t).yomi] else []
structure Uh(d:Zg)(us:List GRec)(t:Y0):Prop where
 cls:t.cls<=3
 known:t.cls=1->∃ i:Nat,t.id=i/\i<(Zw d).length
 unk:t.cls=2->∃ i:Nat,t.id=i/\i<(Ze d).length
 user:t.cls=3->∃ i:Nat,t.id=i/\i<us.length
 num:t.index<=1000000000/\(-1<=t.id/\t.id<=1000000)/\t.pos<=1000000000/\t.start<=1000000000/\t.fin<=1000000000/\t.surf.size<=1000
structure Vd(d:Zg)(us:List GRec)(kd:Nat)(pu:Option Addr)(H U:Nat)(w:World):Prop where
 dict:Zz d kd H U w
 user:us≠[]->∃ ku,pu=some ⟨ku,0,none⟩/\L8 ku us H U w
 nw:(Zw d).length<=1000
 few:(∀ u∈Zw d,u.pos.length<=50/\u.contents.length<=1000/\∀ s∈u.pos,s.size<=2147483647)/\(∀ u∈Ze d,u.contents.length<=1000)/\∀ u∈us,1<=u.tokens.length/\u.tokens.length=u.yomi.length/\total u.tokens<=1048576/\total u.yomi<=1048576
 marks:(∀ m∈Zj d.meta0,0<=m.2/\m.2<=100)/\∀ m∈Zj d.unkMeta,0<=m.2/\m.2<=100
theorem Vd.keep{d:Zg}{us:List GRec}{kd:Nat}{pu:Option Addr}{H U:Nat}{w w':World}{S:Nat->Prop}(h:Vd d us kd pu H U w)(f:Fr S w w')(q:∀ b,H<=b->b<U->¬ S b):Vd d us kd pu H U w' :=
 ⟨h.dict.keep f q,λe=>by obtain⟨z,a,b⟩:=h.user e;exact⟨z,a,b.keep f q⟩,h.nw,h.few,h.marks⟩
theorem Vd.ext{d:Zg}{us:List GRec}{kd:Nat}{pu:Option Addr}{H U:Nat}{w w':World}(h:Vd d us kd pu H U w)(f:Zf w w'):Vd d us kd pu H U w':=h.keep f (λ_ _ _=>id)
abbrev Zo5:TypeId:=137
theorem O9(l n:Nat)(hl:l<=n)(G:n<=2000000)(W:World):(Instr.makeSlice 34 (.int .i64 (l:Int)) (.int .i64 (n:Int))).run Tryz.prog W=.ok (.slice (some ⟨W.heap.size,0,none⟩) l n) (W.alloc (.cells (madeCells #[.string ⟨#[]⟩] n) 9)):=by
 obtain⟨is,A,z,q,h⟩:=info_parts V5;have:=run_make (P:=Tryz.prog) W 34 9 is _ Tryz.underlying34 A z .i64 .i64 l n Om Om (by rw[h];omega) Om;rw[q]at this;simpa [Value.cells] using this
theorem So(v:Value)(n:Nat):(madeCells #[v] n).size=n:=by simp[madeCells]
abbrev Zu(kd:Nat)(pu:Option Addr)(t:Y0):Obj:=.cells (Yn kd pu t).toArray Zo5
theorem Zd4(kd:Nat)(pu:Option Addr)(t:Y0)(w:World):(w.alloc (Zu kd pu t)).cell? ⟨w.heap.size,1,none⟩=some (.int .i64 t.id)/\(w.alloc (Zu kd pu t)).cell? ⟨w.heap.size,2,none⟩=some (.int .i64 t.cls)/\(w.alloc (Zu kd pu t)).cell? ⟨w.heap.size,7,none⟩=some (.pointer (some ⟨kd,0,none⟩))/\(w.alloc (Zu kd pu t)).cell? ⟨w.heap.size,8,none⟩=some (.pointer pu) :=
 have h:=alloc_at w (Zu kd pu t)
 ⟨cell_of h 1 _ rfl,cell_of h 2 _ rfl,cell_of h 7 _ rfl,cell_of h 8 _ rfl⟩
def KnF(x:GWord)(i kd h nw q P I G z C J A:Nat)(Q R:Option Addr)(W:World):Prop :=
 W.cell? ⟨kd,1,none⟩=some (.slice (some ⟨P,0,none⟩) nw I)/\W.cell? ⟨P,i,none⟩=some (.slice Q x.pos.length G)/\W.cell? ⟨kd,2,none⟩=some (.slice (some ⟨z,0,none⟩) (q+1) (q+1))/\W.cell? ⟨kd,4,none⟩=some (.slice (some ⟨C,0,none⟩) nw J)/\W.cell? ⟨C,i,none⟩=some (.slice R x.contents.length A) /\
 W.cell? ⟨h,1,none⟩=some (.int .i64 (i:Int))/\W.cell? ⟨h,2,none⟩=some (.int .i64 ((1:Nat):Int))/\W.cell? ⟨h,7,none⟩=some (.pointer (some ⟨kd,0,none⟩))/\h<W.heap.size/\kd<W.heap.size
theorem KnF.ext{x:GWord}{i kd q nw z P J I A C K G:Nat}{Q R:Option Addr}{W L:World}(h:KnF x i kd q nw z P J I A C K G Q R W)(f:Zf W L):KnF x i kd q nw z P J I A C K G Q R L:=by
 obtain⟨X,V,M,c1,c2,b1,b2,b7,Z,Y⟩:=h;exact⟨f.cell X id,f.cell V id,f.cell M id,f.cell c1 id,f.cell c2 id,f.cell b1 id,f.cell b2 id,f.cell b7 id,Nat.lt_of_lt_of_le Z f.size,Nat.lt_of_lt_of_le Y f.size⟩
def Zpa(x:GWord)(h q:Nat)(Q:Option Addr)(w:World):Prop:=∀ j (z:j<x.pos.length),∃ b o k,Q=some ⟨b,o,none⟩/\w.cell? ⟨b,o+j,none⟩=some (.int .u16 (((k:Nat):Int)+1))/\k<h/\w.cell? ⟨q,k+1,none⟩=some (.string x.pos[j])
theorem Zdj{d:Zg}{us:List GRec}{kd H U:Nat}{pu:Option Addr}{w:World}(h:Vd d us kd pu H U w)(t:Y0)(i:Nat)(G:t.id=i)(hc:t.cls=1)(hi:i<(Zw d).length) :
  ∃ nw A P J Q I q C K R z,i<nw/\KnF (Zw d)[i] i kd w.heap.size nw A P J I q C K z Q R (w.alloc (Zu kd pu t))/\Zpa (Zw d)[i] A q Q w/\strs.R w (λj=>H<=j/\j<U) (Zw d)[i].contents [.slice R (Zw d)[i].contents.length z] /\
   ((Zw d)[i].pos.length<=50/\(Zw d)[i].contents.length<=1000/\∀ s∈(Zw d)[i].pos,s.size<=2147483647)/\A<=50000:=by
 obtain⟨P,J,Q,I,q,M,Z,Y,W⟩:=h.dict.pos i hi;obtain⟨C,K,R,z,c1,c2,c3⟩:=h.dict.conts i hi;obtain⟨L,V,b7,_⟩:=Zd4 kd pu t w;rw[G]at L;rw[hc]at V;have X:Zf w (w.alloc (Zu kd pu t)):=(Fl w).alloc _;exact⟨_,_,P,J,Q,I,q,C,K,R,z,hi,⟨X.cell M id,X.cell Z id,X.cell Y id,X.cell c1 id,X.cell c2 id,L,V,b7,lt_of_cell L,Nat.lt_of_lt_of_le (lt_of_cell M) X.size⟩,W,c3,h.few.1 _ (List.getElem_mem hi),Nt (Pn _ (λu hu=>(h.few.1 u hu).1) _ (Nl _)) (by have:=h.nw;omega)⟩
theorem Zdq(d:Zg)(us:List GRec)(t:Y0)(i:Nat)(aa:t.id=i)(hc:t.cls=1)(hi:i<(Zw d).length)(kd H U:Nat)(pu:Option Addr)(w:World)(hD:Vd d us kd pu H U w) :
  Calls Tryz.prog 70 #[.agg (Yn kd pu t).toArray] w λe w'=>∃ v,e=.returned v/\strs.R w' (λj=>w.heap.size<=j) ((Zw d)[i].pos++(Zw d)[i].contents) [v]/\Zf w w':=by
 have mixed:Tryz.prog.follows .mixedOrders=true:=Kr
 obtain⟨nw,nl,P,cP,Q,cQ,gl,C,cC,R,cR,bi,K0,hP,hC,A,_⟩:=Zdj hD t i aa hc hi;generalize (Zw d)[i]=x at *;clear hD hi;obtain⟨idx,id,cls,pos,st,fi,sf⟩:=t;simp only at aa hc;subst aa hc;obtain⟨rb,L⟩:∃ rb,rb=w.heap.size:=⟨_,rfl⟩;have X0:Zf w (w.alloc (Zu kd pu ⟨idx,i,1,pos,st,fi,sf⟩)):=(Fl _).alloc _;rw[<- L]at K0;go_enter Tryz.func70,Tryz.ntmps70
 go_upto_region 1 with fail
 have HP:=Hd hP;have HC:=Hd hC;have HX:=Hd X0;rw[<- L];have bn:=Hd L;clear hP hC L X0;generalize w.alloc _=W at *;obtain⟨p1,p2,p3,c1,c2,b1,b2,b7,lb,lk⟩:=id K0;have HF:Hid (∀ W',Zf W W'->KnF x i kd rb nw nl P cP cQ gl C cC cR Q R W'):=λW' f=>K0.ext f
 clear K0;have bh:(i:Int)<(nw:Int):=Om
 have bj:(0:Int)<=(i:Int):=Om
 go_upto_region 5 with fail
 go_quiet (fail)
 clear p1 p2 p3 c1 c2 b1 b2 b7 lb lk;have ae:IntKind.i64.wrap ((x.pos.length:Int)+(x.contents.length:Int))=(x.pos.length:Int)+(x.contents.length:Int):=by rw[IntKind.wrap_i64];omega
 have ax:∀ W:World,(Instr.makeSlice 34 (.int .i64 0) (.int .i64 ((x.pos.length:Int)+(x.contents.length:Int)))).run Tryz.prog W=.ok (.slice (some ⟨W.heap.size,0,none⟩) 0 (x.pos.length+x.contents.length)) (W.alloc (.cells (madeCells #[.string ⟨#[]⟩] (x.pos.length+x.contents.length)) 9)):=λW=>by
  have:=O9 0 (x.pos.length+x.contents.length) Om Om W;simpa using this
 have F1:Zf W (W.drewN nq):=(Fl W).drewN nq;obtain⟨p1,p2,p3,c1,c2,b1,b2,b7,lb,lk⟩:=HF.out _ F1;have ad:=Hd F1;clear F1;generalize W.drewN nq=W1 at *;go_upto_region 6 with fail
 go_still_tail 13,Kr
 change wpList _ _ _ _ _ W1.drew;go_wp2_with fail
 obtain⟨N,hN⟩:∃ N,N=W1.heap.size:=⟨_,rfl⟩;rw[<- hN];have F2:Zf W (W1.alloc (.cells (madeCells #[.string ⟨#[]⟩] (x.pos.length+x.contents.length)) 9)).drew:=(ad.out.alloc _).drew;have K2:(W1.alloc (.cells (madeCells #[.string ⟨#[]⟩] (x.pos.length+x.contents.length)) 9)).drew.heap[N]?=some (.cells (madeCells #[.string ⟨#[]⟩] (x.pos.length+x.contents.length)) 9 (0,0)):=alloc_at' _ _ hN;have bl:w.heap.size<=N:=by rw[hN];exact (HX.out.trans ad.out (λ_ _ e=>e)).size
 obtain⟨p1,p2,p3,c1,c2,b1,b2,b7,lb,lk⟩:=HF.out _ F2;have bm:W.heap.size<=N:=by have:=ad.out.size;omega
 clear hN ae ax;generalize (W1.alloc _).drew=W2 at *;go_quiet (fail)
 have F3:Zf W (W2.drewN nq):=F2.drewN nq;have K3:(W2.drewN nq).heap[N]?=some (.cells (madeCells #[.string ⟨#[]⟩] (x.pos.length+x.contents.length)) 9 (0,0)):=K2;have ac:=Hd (Ai1 F3 K3);clear F2 K2 F3 K3 p1 p2 p3 c1 c2 b1 b2 b7 lb lk;generalize W2.drewN nq=W3 at *;obtain⟨Y,M⟩:∃ n,n=x.pos.length:=⟨_,rfl⟩;have h:=Hd M;rw[<- M];clear M;go_wp2_with fail
 have M:Y<=50:=by rw[h.out];exact A.1
 have bk:=A.2.1;have aj:=Hd A.2.2;clear A
 go_loopg [4,56] Y (λg1 v4 aq wr=>∃ (j:Nat) (u:Value),v4=u/\aq=.int .i64 (j:Int)/\j<=Y/\Y<=j+g1/\Hid (RowK Ty.str 9 u (x.pos.take j) N wr/\Zf W wr)/\N<=wr.heap.size)
 case atStart=>exact⟨0,_,rfl,rfl,Om,Om,⟨Zez rfl ac.out.2 (by rw[So];have:=h.out;omega) Om (Nl _),ac.out.1⟩,Nat.le_of_lt (Gs1.1 ac.out.2).1⟩
 case round =>
  obtain⟨j,u,rfl,rfl,hj,hg,V,a7⟩:=hrel;have HL:=Hd V.out.1.low;obtain⟨p1,p2,p3,c1,c2,b1,b2,b7,lb,lk⟩:=HF.out _ V.out.2;by_cases J:j<Y
  ·have bd:(j:Int)<(Y:Int):=Om;have a8:(0:Int)<=(j:Int):=Om;obtain⟨b,o,k,rfl,hq,hk,hn⟩:=HP.out j (by rw[<- h.out];exact J);have XW:=HX.out.trans V.out.2 (λ_ _ e=>e);have hq:=XW.cell hq id;have hn:=XW.cell hn id;have bg:(0:Int)<=(k:Int)+1:=Om;have bf:(k:Int)+1<(nl:Int)+1:=Om;have be:((k:Int)+1).toNat=k+1:=Om;have HT:Hid (x.pos.take (j+1)=x.pos.take j++[x.pos[j]'(by rw[<- h.out];exact J)]):=List.take_succ_eq_append_getElem (by rw[<- h.out];exact J);have bo:=Hd XW.size;have bb:=aj.out _ (List.getElem_mem (show j<x.pos.length by rw[<- h.out];exact J));generalize x.pos[j]'(by rw[<- h.out];exact J)=s at *;clear XW
   go_wp2_with (first
    | (at_builtin;refine RowK.lst (v:=u4) rfl _ _ 34 rfl s [.string s] 16 ⟨wr.heap.size,0,none⟩ Tryz.underlying34 Mp (by decide) Om rfl rfl (V.out.1.ext ((Fl wr).alloc _)) (by rw[List.length_take];omega) (by simp;omega) (Z2 _ _) ⟨rfl,Om⟩ ?_;intro v' w6 ai ag a6;have H6:=Hd (Ai1 ai ag);clear ai ag a6)
    | fail)
   go_roundg (Y-(j+1))
   case measure=>omega
   case rel=>exact⟨j+1,v',rfl,by go_num,Om,Om,⟨by rw[HT.out];exact H6.out.1,(V.out.2.alloc _).trans H6.out.2 (λk hk e=>by have:=(HL.out k e).1;omega)⟩,by have:=H6.out.2.size;rw[Za]at this;omega⟩
  ·obtain rfl:j=Y:=Om
   have I:=V.out.1.texts;have ay:j=x.pos.length:=h.out;rw[ay,List.take_length]at I;have HO:=Hd I;have am:=Hd V.out.2;have X:=Hd (strs.ext HC.out (HX.out.trans V.out.2 (λ_ _ e=>e)));clear I V h;go_upto_region 13 with fail
   go_still_tail 10,Kr
   change wpList _ _ _ _ _ wr.drew;obtain⟨is,af,av,au,ar⟩:=info_parts V5;have HE:Hid ((x.pos++x.contents).map Value.string=x.pos.map Value.string++x.contents.map Value.string):=List.map_append
   have al:Hid (∀ s∈x.pos++x.contents,s.size<=9223372036854775807):=λs hs=>by
    rcases List.mem_append.1 hs with q|q
    ·have:=aj.out s q;omega
    ·exact Tf X.out s q
   have bc:w.heap.size<=wr.heap.size:=Om
   cases R with
   | none =>
    have ap:Hid (x.contents=[]):=Ld X.out;obtain rfl:cR=0:=Le X.out
    go_wp2_with (first
     | (at_builtin;refine Jb rfl _ _ 34 rfl N 9 is 1 Tryz.underlying34 af u4 _ _ rfl HO.out (by show Value.slice none x.contents.length 0=_;rw[ap.out];rfl) ?_)
     | fail)
    first|go_ret|go_ret2
    refine⟨_,rfl,?_,(HX.out.trans am.out (λ_ _ e=>e)).drew⟩;have:=Wx (xs:=x.pos) (B:=N) (w:=wr.drew) (v:=u4) (show World.ownsRow wr.drew N _ 1 u4 x.pos.length _ from HO.out) (λs hs=>al.out s (by simp[hs]));rw[ap.out,List.append_nil];exact strs.mono (λk _ q=>Om) this
   | some ra =>
    obtain⟨ab,ao,ak⟩:=ra
    have ah:∀ j v,(x.contents.map Value.string)[j]?=some v->wr.drew.cell? (Addr.add ⟨ab,ao,ak⟩ j)=some v:=λj v hv=>by
     have aw:x.contents≠[]:=λe=>by rw[e]at hv;simp at hv
     obtain⟨b,o,e,_,az⟩:=Xh X.out aw;cases e;exact az j v hv
    go_wp2_with (first
     | (at_builtin;refine wpList_append_own_at _ rfl _ _ 34 rfl N 9 is _ 1 16 Tryz.underlying34 af av au ar rfl (by decide) u4 x.pos.length _ rfl HO.out ⟨ab,ao,ak⟩ x.contents.length cR (x.contents.map Value.string) rfl (by simp) ah (by intro y hy;obtain⟨z,_,rfl⟩:=List.mem_map.1 hy;rfl) (by unfold maxLen;omega) Om a7 ?_;intro v' w7 G K Z a1;have H7:=Hd (Ai1 G K);clear G K Z a1)
     | fail)
    first|go_ret|go_ret2
    have F7:Fr (λk=>u4.ownBlock=some k) wr.drew w7:=(Fl _).grown H7.out.2 (λk e _=>e);refine⟨_,rfl,?_,((HX.out.trans am.out (λ_ _ e=>e)).drew).trans F7 (λk hk e=>by have:=(HL.out k e).1;omega)⟩;have h7:=H7.out.1;rw[<- HE.out,show x.pos.length+x.contents.length=(x.pos++x.contents).length from List.length_append.symm]at h7;exact strs.mono (λk _ q=>Om) (Wx h7 al.out)
end
section
open Go.RowKit DT SS TR LT
def UnF(x:GUnk)(i kd h nw C z q:Nat)(R:Option Addr)(W:World):Prop :=
 W.cell? ⟨kd,18,none⟩=some (.slice (some ⟨C,0,none⟩) nw z)/\W.cell? ⟨C,i,none⟩=some (.slice R x.contents.length q) /\
 W.cell? ⟨h,1,none⟩=some (.int .i64 (i:Int))/\W.cell? ⟨h,2,none⟩=some (.int .i64 ((2:Nat):Int))/\W.cell? ⟨h,7,none⟩=some (.pointer (some ⟨kd,0,none⟩))/\h<W.heap.size/\kd<W.heap.size
theorem UnF.ext{x:GUnk}{i kd q nw C A z:Nat}{R:Option Addr}{W G:World}(h:UnF x i kd q nw C A z R W)(f:Zf W G):UnF x i kd q nw C A z R G:=by
 obtain⟨L,K,X,V,M,J,I⟩:=h;exact⟨f.cell L id,f.cell K id,f.cell X id,f.cell V id,f.cell M id,Nat.lt_of_lt_of_le J f.size,Nat.lt_of_lt_of_le I f.size⟩
theorem Zcl{d:Zg}{us:List GRec}{kd H U:Nat}{pu:Option Addr}{w:World}(G:Vd d us kd pu H U w)(t:Y0)(i:Nat)(q:t.id=i)(K:t.cls=2)(hi:i<(Ze d).length) :
  ∃ nw C z R h,i<nw/\UnF (Ze d)[i] i kd w.heap.size nw C z h R (w.alloc (Zu kd pu t))/\strs.R w (λj=>H<=j/\j<U) (Ze d)[i].contents [.slice R (Ze d)[i].contents.length h]/\(Ze d)[i].contents.length<=1000:=by
 obtain⟨C,z,R,h,I,M,L⟩:=G.dict.unkConts i hi;obtain⟨A,J,V,_⟩:=Zd4 kd pu t w;rw[q]at A;rw[K]at J;have X:Zf w (w.alloc (Zu kd pu t)):=(Fl w).alloc _;exact⟨_,C,z,R,h,hi,⟨X.cell I id,X.cell M id,A,J,V,lt_of_cell A,Nat.lt_of_lt_of_le (lt_of_cell I) X.size⟩,L,G.few.2.1 _ (List.getElem_mem hi)⟩
theorem O5{α:Type}(q cs:List α)(h:q.length=cs.length):splice q 0 cs=cs:=by
 unfold splice;simp[h]
theorem Zj9(d:Zg)(us:List GRec)(t:Y0)(i:Nat)(A:t.id=i)(hc:t.cls=2)(hi:i<(Ze d).length)(kd H U:Nat)(pu:Option Addr)(w:World)(hD:Vd d us kd pu H U w) :
  Calls Tryz.prog 70 #[.agg (Yn kd pu t).toArray] w λe w'=>∃ v,e=.returned v/\strs.R w' (λj=>w.heap.size<=j) (Ze d)[i].contents [v]/\Zf w w':=by
 have mixed:Tryz.prog.follows .mixedOrders=true:=Kr
 obtain⟨nw,C,cC,R,cR,ag,L,hC,ah⟩:=Zcl hD t i A hc hi;generalize (Ze d)[i]=x at *;clear hD hi;obtain⟨idx,id,cls,pos,st,fi,sf⟩:=t;simp only at A hc;subst A hc;obtain⟨X,q⟩:∃ X,X=w.heap.size:=⟨_,rfl⟩;have X0:Zf w (w.alloc (Zu kd pu ⟨idx,i,2,pos,st,fi,sf⟩)):=(Fl _).alloc _;rw[<- q]at L;go_enter Tryz.func70,Tryz.ntmps70
 go_upto_region 1 with fail
 have HC:=Hd (strs.ext hC X0);have M:=Hd X0;rw[<- q];clear hC q X0;generalize w.alloc _=W at *;obtain⟨c1,c2,b1,b2,b7,Z,Y⟩:=id L;have HF:Hid (∀ W',Zf W W'->UnF x i kd X nw C cC cR R W'):=λW' f=>L.ext f
 clear L;have ab:(i:Int)<(nw:Int):=Om
 have ac:(0:Int)<=(i:Int):=Om
 have aa:∀ W:World,(Instr.makeSlice 34 (.int .i64 (x.contents.length:Int)) (.int .i64 (x.contents.length:Int))).run Tryz.prog W=.ok (.slice (some ⟨W.heap.size,0,none⟩) x.contents.length x.contents.length) (W.alloc (.cells (madeCells #[.string ⟨#[]⟩] x.contents.length) 9)):=λW=>O9 x.contents.length x.contents.length (Nl _) Om W
 go_upto_region 16 with fail
 go_still_tail 11,Kr
 change wpList _ _ _ _ _ W.drew;go_wp2_with fail
 obtain⟨N,K⟩:∃ N,N=W.heap.size:=⟨_,rfl⟩;rw[<- K];have V:Zf W (W.alloc (.cells (madeCells #[.string ⟨#[]⟩] x.contents.length) 9)).drew:=((Fl W).alloc _).drew;have K2:(W.alloc (.cells (madeCells #[.string ⟨#[]⟩] x.contents.length) 9)).drew.heap[N]?=some (.cells (madeCells #[.string ⟨#[]⟩] x.contents.length) 9 (0,0)):=alloc_at' _ _ K;have J:w.heap.size<=N:=by rw[K];exact M.out.size
 have ai:=Hd K;clear K aa c1 c2 b1 b2 b7 Z Y;obtain⟨c1,c2,b1,b2,b7,Z,Y⟩:=HF.out _ V;have h:=Hd (Ai1 V (Ai1 K2 (strs.ext HC.out V)));clear V K2;generalize (W.alloc _).drew=W2 at *
 go_still_tail 11,Kr
 change wpList _ _ _ _ _ W2.drew
 have G:(0:Nat)<((x.contents.map Value.string)).length->some (⟨N,0,none⟩:Addr)=some ⟨N,0,none⟩/\∃ ad,R=some ad/\∀ j v,(x.contents.map Value.string)[j]?=some v->W2.drew.cell? (ad.add j)=some v:=λh0=>by
  obtain⟨b,o,e,_,ae⟩:=Xh h.out.2.2 (λe=>by rw[e]at h0;simp at h0);exact⟨rfl,_,e,ae⟩
 refine wpList_copy_splice rfl _ _ 34 34 rfl 9 Tryz.underlying34 Kr (some ⟨N,0,none⟩) R x.contents.length x.contents.length x.contents.length cR rfl rfl N 0 (madeCells #[.string ⟨#[]⟩] x.contents.length).toList 9 h.out.2.1 (x.contents.map Value.string) (by simp) G (by rw[List.length_map];have:=So (.string ⟨#[]⟩) x.contents.length;simp[madeCells]) (by intro y hy;obtain⟨z,_,rfl⟩:=List.mem_map.1 hy;rfl) N W2.drew (Below.refl _ _) (Nl _) ?_;intro w7 h7 I;rw[O5 _ _ (by simp[madeCells])]at h7;clear G c1 c2 b1 b2 b7 Z Y HF ab ac;have af:=Hd (show Zf w w7 from Fr.of_below (((Fr.below M.out).trans ((Fr.below h.out.1).mono M.out.size)).drew.trans (I.mono J)));have HE:=Hd (strs.mono (O':=λj=>w.heap.size<=j) (λj _ hj=>Nt J hj) (Sj h7.out rfl (λs hs=>Tf h.out.2.2 s hs) Om));clear h HC M h7 I;rw[List.length_map];go_wp2_with fail
 first|go_ret|go_ret2
 exact⟨_,rfl,HE.out,af.out⟩
end
section
open Go.RowKit DT SS TR LT
theorem Z5{a b c:World}(f:Zf a b)(g:Zf b c):Zf a c:=f.trans g (λ_ _ e=>e)
def UsF(x:GRec)(i z h n C q J I G:Nat)(A B:Option Addr)(W:World):Prop :=
 W.cell? ⟨z,2,none⟩=some (.slice (some ⟨C,q,none⟩) n J)/\W.cell? ⟨C,q+i*3,none⟩=some (.slice A x.tokens.length I)/\W.cell? ⟨C,q+i*3+1,none⟩=some (.slice B x.yomi.length G)/\W.cell? ⟨C,q+i*3+2,none⟩=some (.string x.pos) /\
 W.cell? ⟨h,1,none⟩=some (.int .i64 (i:Int))/\W.cell? ⟨h,2,none⟩=some (.int .i64 ((3:Nat):Int))/\W.cell? ⟨h,8,none⟩=some (.pointer (some ⟨z,0,none⟩))/\h<W.heap.size/\z<W.heap.size
theorem UsF.ext{x:GRec}{i G q n C z K J I:Nat}{A B:Option Addr}{W L:World}(h:UsF x i G q n C z K J I A B W)(f:Zf W L):UsF x i G q n C z K J I A B L:=by
 obtain⟨c1,Z,Y,X,b1,b2,b8,V,M⟩:=h;exact⟨f.cell c1 id,f.cell Z id,f.cell Y id,f.cell X id,f.cell b1 id,f.cell b2 id,f.cell b8 id,Nat.lt_of_lt_of_le V f.size,Nat.lt_of_lt_of_le M f.size⟩
theorem Et{d:Zg}{us:List GRec}{kd H U:Nat}{pu:Option Addr}{w:World}(W:Vd d us kd pu H U w)(t:Y0)(i:Nat)(K:t.id=i)(hc:t.cls=3)(hi:i<us.length) :
  ∃ q n C I cC G z A B,pu=some ⟨q,0,none⟩/\i<n/\UsF us[i] i q w.heap.size n C I cC G z A B (w.alloc (Zu kd pu t))/\strs.R w (λj=>H<=j/\j<U) us[i].tokens [.slice A us[i].tokens.length G]/\strs.R w (λj=>H<=j/\j<U) us[i].yomi [.slice B us[i].yomi.length z] /\
   (1<=us[i].tokens.length/\us[i].tokens.length=us[i].yomi.length/\total us[i].tokens<=1048576/\total us[i].yomi<=1048576)/\us[i].pos.size<=9223372036854775807:=by
 obtain⟨q,hp,h0,v,h1,A,c,hv,h2,h3,h4,h5⟩:=W.user (λe=>by rw[e]at hi;simp at hi);cases hv;rcases h5 with rfl|⟨C,I,rfl,_,_,M⟩
 ·simp at hi
 obtain⟨cs,L,h⟩:=M i hi;obtain⟨c0,ac,rfl,hA,ab,aa,rfl,hB,hS⟩:=L;obtain⟨vA,rfl⟩:=Gw hA;obtain⟨vB,rfl⟩:=Gw hB;obtain⟨rfl,J⟩:=hS;obtain⟨A',G,rfl⟩:=Y2 hA;obtain⟨B',z,rfl⟩:=Y2 hB;have e0:=h 0 (by simp);have e1:=h 1 (by simp);have e2:=h 2 (by simp);obtain⟨V,Z,_,Y⟩:=Zd4 kd pu t w;rw[K]at V;rw[hc]at Z;rw[hp]at Y;have X:Zf w (w.alloc (Zu kd pu t)):=(Fl w).alloc _;subst hp;exact⟨q,_,C,I,c,G,z,A',B',rfl,hi,⟨X.cell h1 id,X.cell e0 id,X.cell e1 id,X.cell e2 id,V,Z,Y,lt_of_cell V,Nat.lt_of_lt_of_le (lt_of_cell h1) X.size⟩,hA,hB,W.few.2.2 _ (List.getElem_mem hi),J⟩
theorem Ze3:∀ (xs:List ByteArray) (h:List UInt8),h.length<=1->(Lib.join (xs.map (·.data.toList)) h).length<=total xs:=by
 intro xs
 induction xs with
 | nil=>intro h _;simp[Lib.join,total]
 | cons a l ih =>
  intro h q;have:=ih h q
  cases l with
  | nil=>simp[Lib.join,List.intercalate,total]
  | cons b m =>
   simp only[Lib.join,List.intercalate,List.map_cons,List.intersperse,List.flatten_cons,List.length_append,total,List.sum_cons]at this⊢;have e:a.data.toList.length=a.size:=(by simp);omega
theorem Ix(xs:List ByteArray):(Ps xs).size<=total xs:=by
 have:=Ze3 xs [47] (by decide);simpa [Ps,ByteArray.size] using this
theorem Lc(xs:List ByteArray):xs.length<=total xs:=by
 induction xs with
 | nil=>simp
 | cons a l ih=>unfold total at *;simp only[List.length_cons,List.map_cons,List.sum_cons];omega
theorem Ob{O:Nat->Prop}(xs:List ByteArray)(A:Option Addr)(c:Nat)(w:World)(h:strs.R w O xs [.slice A xs.length c])(h1:1<=xs.length)(K:total xs<=1048576) :
  Calls Tryz.prog 119 #[.slice A xs.length c,.string ⟨#[47]⟩] w λe w'=>e=.returned (.string (Ps xs))/\Zf w w':=by
 obtain⟨b,o,rfl,J,z⟩:=Xh h (λe=>by rw[e]at h1;simp at h1);obtain⟨_,_,e,q,_⟩:=h;cases e;have G:=Lc xs;refine Zjn b o c xs ⟨#[47]⟩ w (λj x I=>?_) J Om q (Nt (Ze3 xs _ (by decide)) Om);have:=z j (.string x) (by rw[List.getElem?_map,I];rfl);rwa[Addr.add_lit]at this
theorem Zhb(d:Zg)(us:List GRec)(t:Y0)(i:Nat)(J:t.id=i)(hc:t.cls=3)(hi:i<us.length)(kd H U:Nat)(pu:Option Addr)(w:World)(hD:Vd d us kd pu H U w) :
  Calls Tryz.prog 70 #[.agg (Yn kd pu t).toArray] w λe w'=>∃ v,e=.returned v/\strs.R w' (λj=>w.heap.size<=j) [us[i].pos,Ps us[i].tokens,Ps us[i].yomi] [v]/\Zf w w':=by
 have mixed:Tryz.prog.follows .mixedOrders=true:=Kr
 obtain⟨ku,n,C,oC,cC,ca,cb,A,B,rfl,ad,K0,hA,hB,G,ab⟩:=Et hD t i J hc hi;generalize us[i]=x at *;clear hD hi;obtain⟨idx,id,cls,pos,st,fi,sf⟩:=t;simp only at J hc;subst J hc;obtain⟨rb,I⟩:∃ rb,rb=w.heap.size:=⟨_,rfl⟩;have X0:Zf w (w.alloc (Zu kd (some ⟨ku,0,none⟩) ⟨idx,i,3,pos,st,fi,sf⟩)):=(Fl _).alloc _;rw[<- I]at K0;go_enter Tryz.func70,Tryz.ntmps70
 go_upto_region 1 with fail
 have K:=Hd (Ai1 (strs.ext hA X0) (strs.ext hB X0));have HX:=Hd X0;rw[<- I];clear hA hB I X0;generalize w.alloc _=W at *;obtain⟨c1,c2,c3,c4,b1,b2,b8,Y,X⟩:=id K0;have HF:Hid (∀ W',Zf W W'->UsF x i ku rb n C oC cC ca cb A B W'):=λW' f=>K0.ext f
 clear K0;have q:=Hd G;clear G;have ac:(i:Int)<(n:Int):=Om
 have ae:(0:Int)<=(i:Int):=Om
 go_upto_region 20 with fail
 go_quiet (fail)
 have M:Zf W (W.drewN nq):=(Fl W).drewN nq;clear c1 c2 c3 c4 b1 b2 b8 Y X;obtain⟨c1,c2,c3,c4,b1,b2,b8,Y,X⟩:=HF.out _ M;have H1:=Hd (Ai1 (Z5 HX.out M) (Ai1 M (Ai1 (strs.ext K.out.1 M) (strs.ext K.out.2 M))));clear M HX K;generalize W.drewN nq=W1 at *;go_upto_region 21 with fail
 go_still_tail 10,Kr
 change wpList _ _ _ _ _ W1.drew;have L:Zf W1 W1.drew:=(Fl W1).drew;have CJ:=Hd (Ob x.tokens A ca W1.drew (strs.ext H1.out.2.2.1 L) q.out.1 q.out.2.2.1);go_wp2_with (first|(go_at_call 119;refine CJ.out.mono ?_;rintro e V ⟨rfl,h⟩;have z:=Hd (Z5 L h))|fail)
 clear c1 c2 c3 c4 b1 b2 b8 Y X CJ L h;obtain⟨c1,c2,c3,c4,b1,b2,b8,Y,X⟩:=HF.out _ (Z5 H1.out.2.1 z.out);have H2:=Hd (Ai1 (Z5 H1.out.1 z.out) (strs.ext H1.out.2.2.2 z.out));clear H1 z;go_upto_region 22 with fail
 go_still_tail 10,Kr
 change wpList _ _ _ _ _ V.drew;have L:Zf V V.drew:=(Fl V).drew;have CJ:=Hd (Ob x.yomi B cb V.drew (strs.ext H2.out.2 L) (by have:=q.out;omega) q.out.2.2.2);go_wp2_with (first|(go_at_call 119;refine CJ.out.mono ?_;rintro e w6 ⟨rfl,h⟩;have aa:=Hd (Z5 H2.out.1 (Z5 L h)))|fail)
 clear c1 c2 c3 c4 b1 b2 b8 Y X CJ L h H2 HF;go_upto_region 23 with fail
 go_wp2_with fail
 first|go_ret|go_ret2
 refine⟨_,rfl,?_,Z5 aa.out ((Fl _).alloc _)⟩;refine strs.mono (O':=λj=>w.heap.size<=j) (λj _ hj=>Nt aa.out.size hj) (Sj (xs:=[x.pos,Ps x.tokens,Ps x.yomi]) (alloc_at _ _) rfl (λs Z=>?_) Om);have j1:=Ix x.tokens;have j2:=Ix x.yomi;have:=q.out;rcases List.mem_cons.1 Z with rfl|Z
 ·exact ab
 ·rcases List.mem_cons.1 Z with rfl|Z
  ·omega
  ·cases List.mem_singleton.1 Z;omega
theorem Zi0(d:Zg)(us:List GRec)(t:Y0)(i:Nat)(q:t.id=i)(G:t.cls=3)(hi:i<us.length)(kd H U:Nat)(pu:Option Addr)(w:World)(K:Vd d us kd pu H U w) :
  Calls Tryz.prog 71 #[.agg (Yn kd pu t).toArray] w λe w'=>∃ v,e=.returned v/\strs.R w' (λj=>w.heap.size<=j) [us[i].pos] [v]/\Zf w w':=by
 have mixed:Tryz.prog.follows .mixedOrders=true:=Kr
 obtain⟨ku,n,C,oC,cC,ca,cb,A,B,rfl,ab,I,_,_,_,z⟩:=Et K t i q G hi;generalize us[i]=x at *;clear K hi;obtain⟨idx,id,cls,pos,st,fi,X⟩:=t;simp only at q G;subst q G;obtain⟨J,h⟩:∃ J,J=w.heap.size:=⟨_,rfl⟩;have L:Zf w (w.alloc (Zu kd (some ⟨ku,0,none⟩) ⟨idx,i,3,pos,st,fi,X⟩)):=(Fl _).alloc _;rw[<- h]at I;go_enter Tryz.func71,Tryz.ntmps71
 go_upto_region 1 with fail
 have M:=Hd L;rw[<- h];clear h L;generalize w.alloc _=W at *;obtain⟨c1,c2,c3,c4,b1,b2,b8,Z,Y⟩:=id I;clear I;have aa:(i:Int)<(n:Int):=Om
 have ac:(0:Int)<=(i:Int):=Om
 go_upto_region 29 with fail
 go_quiet (fail)
 have V:=Hd (Z5 M.out ((Fl W).drewN nq));clear c1 c2 c3 c4 b1 b2 b8 Z Y M;generalize W.drewN nq=W1 at *;go_upto_region 30 with fail
 go_wp2_with fail
 first|go_ret|go_ret2
 refine⟨_,rfl,?_,Z5 V.out ((Fl _).alloc _)⟩;exact strs.mono (O':=λj=>w.heap.size<=j) (λj _ hj=>Nt V.out.size hj) (Sj (xs:=[x.pos]) (alloc_at _ _) rfl (λs hs=>by cases List.mem_singleton.1 hs;exact z) Om)
theorem Zhc(t:Y0)(h:t.cls=0)(kd:Nat)(pu:Option Addr)(w:World):Calls Tryz.prog 70 #[.agg (Yn kd pu t).toArray] w λe w'=>e=.returned (.slice none 0 0)/\Zf w w':=by
 obtain⟨idx,id,cls,pos,st,z,q⟩:=t;simp only at h;subst h;go_enter Tryz.func70,Tryz.ntmps70
 go_wp2_with fail
 first|go_ret|go_ret2
 exact⟨rfl,(Fl _).alloc _⟩
theorem Zi1(t:Y0)(h:t.cls=0)(kd:Nat)(pu:Option Addr)(w:World):Calls Tryz.prog 71 #[.agg (Yn kd pu t).toArray] w λe w'=>e=.returned (.slice none 0 0)/\Zf w w':=by
 obtain⟨idx,id,cls,pos,st,z,q⟩:=t;simp only at h;subst h;go_enter Tryz.func71,Tryz.ntmps71
 go_wp2_with fail
 first|go_ret|go_ret2
 exact⟨rfl,(Fl _).alloc _⟩
end
section
open Go.RowKit DT SS TR LT
def Qo(l:List ByteArray)(k:Int):Option ByteArray:=if k<0 then none else l[k.toNat]?
abbrev Ys(o:Option ByteArray):Value:=.tuple #[.string (o.getD ⟨#[]⟩),.bool o.isSome]
theorem Zfa(t:Y0)(kd:Nat)(pu:Option Addr)(k:Int)(q:k<0)(w:World):Calls Tryz.prog 163 #[.agg (Yn kd pu t).toArray,.int .i64 k] w λe w'=>e=.returned (Ys none)/\Zf w w':=by
 obtain⟨idx,id,cls,pos,st,z,h⟩:=t;go_enter Tryz.func163,Tryz.ntmps163
 go_wp2_with fail
 first|go_ret|go_ret2
 exact⟨rfl,(Fl _).alloc _⟩
theorem Zhd(d:Zg)(us:List GRec)(t:Y0)(i:Nat)(I:t.id=i)(hc:t.cls=1)(hi:i<(Zw d).length)(kd H U:Nat)(pu:Option Addr)(n:Nat)(hn:n<=9223372036854775807)(w:World)(hD:Vd d us kd pu H U w) :
  Calls Tryz.prog 163 #[.agg (Yn kd pu t).toArray,.int .i64 (n:Int)] w λe w'=>e=.returned (Ys (((Zw d)[i].pos++(Zw d)[i].contents)[n]?))/\Zf w w':=by
 have mixed:Tryz.prog.follows .mixedOrders=true:=Kr
 obtain⟨nw,nl,P,cP,Q,cQ,gl,C,cC,R,cR,ax,K0,hP,hC,h,ak⟩:=Zdj hD t i I hc hi;generalize (Zw d)[i]=x at *;have aj:=h.1;have a1:=h.2.1;clear hD hi h;obtain⟨idx,id,cls,pos,st,fi,sf⟩:=t;simp only at I hc;subst I hc;obtain⟨rb,A⟩:∃ rb,rb=w.heap.size:=⟨_,rfl⟩;have X0:Zf w (w.alloc (Zu kd pu ⟨idx,i,1,pos,st,fi,sf⟩)):=(Fl _).alloc _;rw[<- A]at K0;have am:¬ (n:Int)<0:=Om
 go_enter Tryz.func163,Tryz.ntmps163
 go_upto_region 1 with fail
 have HP:=Hd hP;have HC:=Hd (strs.ext hC X0);have HX:=Hd X0;rw[<- A];clear hP hC A X0;generalize w.alloc _=W at *;obtain⟨X,V,M,c1,c2,b1,b2,b7,Z,Y⟩:=id K0;have HF:Hid (∀ J,Zf W J->KnF x i kd rb nw nl P cP cQ gl C cC cR Q R J):=λJ f=>K0.ext f
 clear K0;have aw:(i:Int)<(nw:Int):=Om
 have az:(0:Int)<=(i:Int):=Om
 go_upto_region 5 with fail
 go_quiet (fail)
 have F1:Zf W (W.drewN nq):=(Fl W).drewN nq;have q:=Hd (HX.out.trans F1 (λ_ _ e=>e));have ah:=Hd (strs.ext HC.out F1);clear X V M c1 c2 b1 b2 b7 Z Y;obtain⟨X,V,M,c1,c2,b1,b2,b7,Z,Y⟩:=HF.out _ F1;have ag:Hid (∀ J,Zf (W.drewN nq) J->KnF x i kd rb nw nl P cP cQ gl C cC cR Q R J):=λJ f=>HF.out _ (F1.trans f (λ_ _ e=>e))
 clear F1;generalize W.drewN nq=W1 at *;by_cases G:n<x.pos.length
 ·have af:(n:Int)<(x.pos.length:Int):=Om
  have al:(0:Int)<=(n:Int):=Om
  obtain⟨b,o,k,rfl,hq,hk,ab⟩:=HP.out n G;have hq:=q.out.cell hq id;have ab:=q.out.cell ab id;have av:(0:Int)<=(k:Int)+1:=Om
  have au:(k:Int)+1<(nl:Int)+1:=Om
  have ar:((k:Int)+1).toNat=k+1:=Om
  have aq:¬ (nl:Int)+1<(k:Int)+1:=Om
  have ap:wrap64 ((k:Int)+1)=(k:Int)+1:=by unfold wrap64;omega
  have HE:Hid ((x.pos++x.contents)[n]?=some x.pos[n]):=by
   show _=_;rw[List.getElem?_append_left G,Ge G]
  go_wp2_with fail
  first|go_ret|go_ret2
  exact⟨by rw[HE.out];rfl,q.out⟩
 ·have af:¬ (n:Int)<(x.pos.length:Int):=Om
  have aa:IntKind.i64.wrap ((n:Int)-(x.pos.length:Int))=((n-x.pos.length:Nat):Int):=by rw[IntKind.wrap_i64];omega
  obtain⟨m,z⟩:∃ m,m=n-x.pos.length:=⟨_,rfl⟩;rw[<- z]at aa
  have HE:Hid ((x.pos++x.contents)[n]?=x.contents[m]?):=by
   show _=_;rw[List.getElem?_append_right Om,z]
  have ay:¬ (nw:Int)<=(i:Int):=Om
  clear z;go_upto_region 12 with fail
  go_quiet (fail)
  have F3:Zf W1 (W1.drewN nq):=(Fl W1).drewN nq;clear X V M c1 c2 b1 b2 b7 Z Y;obtain⟨X,V,M,c1,c2,b1,b2,b7,Z,Y⟩:=ag.out _ F3;have ad:=Hd (Ai1 F3 (strs.ext ah.out F3));clear F3;generalize W1.drewN nq=W2 at *;go_upto_region 14 with fail
  go_quiet (fail)
  have F4:Zf W2 (W2.drewN nq):=(Fl W2).drewN nq;have K:=Hd (Ai1 (q.out.trans (ad.out.1.trans F4 (λ_ _ e=>e)) (λ_ _ e=>e)) (strs.ext ad.out.2 F4));clear F4 X V M c1 c2 b1 b2 b7 Z Y;generalize W2.drewN nq=W3 at *;by_cases z:m<x.contents.length
  ·obtain⟨b,o,e,_,ac⟩:=Xh K.out.2 (λe=>by rw[e]at z;simp at z);subst e;have hq:=ac m (.string x.contents[m]) (by rw[List.getElem?_map,Ge z];rfl);rw[Addr.add_lit]at hq;have ae:¬ (x.contents.length:Int)<=(m:Int):=Om;have ai:(m:Int)<(x.contents.length:Int):=Om;have ao:(0:Int)<=(m:Int):=Om;have L:Hid (x.contents[m]?=some x.contents[m]):=Ge z;clear ac;go_wp2_with fail
   first|go_ret|go_ret2
   exact⟨by rw[HE.out,L.out];rfl,K.out.1⟩
  ·have ae:(x.contents.length:Int)<=(m:Int):=Om;have L:Hid (x.contents[m]?=none):=List.getElem?_eq_none Om;go_wp2_with fail
   first|go_ret|go_ret2
   exact⟨by rw[HE.out,L.out];rfl,K.out.1⟩
end
section
open Go.RowKit DT SS TR LT
theorem Zkb(t:Y0)(h:t.cls=0)(kd:Nat)(pu:Option Addr)(k:Int)(w:World):Calls Tryz.prog 163 #[.agg (Yn kd pu t).toArray,.int .i64 k] w λe w'=>e=.returned (Ys none)/\Zf w w':=by
 by_cases q:k<0
 ·exact Zfa t kd pu k q w
 obtain⟨idx,id,cls,pos,st,A,z⟩:=t;simp only at h;subst h;go_enter Tryz.func163,Tryz.ntmps163
 go_wp2_with fail
 first|go_ret|go_ret2
 exact⟨rfl,(Fl _).alloc _⟩
theorem Zmm(d:Zg)(us:List GRec)(t:Y0)(i:Nat)(z:t.id=i)(X:t.cls=2)(hi:i<(Ze d).length)(kd H U:Nat)(pu:Option Addr)(n:Nat)(w:World)(hD:Vd d us kd pu H U w) :
  Calls Tryz.prog 163 #[.agg (Yn kd pu t).toArray,.int .i64 (n:Int)] w λe w'=>e=.returned (Ys ((Ze d)[i].contents[n]?))/\Zf w w':=by
 have mixed:Tryz.prog.follows .mixedOrders=true:=Kr
 obtain⟨nw,C,cC,R,cR,af,J,hC,ai⟩:=Zcl hD t i z X hi;generalize (Ze d)[i]=x at *;clear hD hi;obtain⟨idx,id,cls,pos,st,fi,sf⟩:=t;simp only at z X;subst z X;obtain⟨K,q⟩:∃ K,K=w.heap.size:=⟨_,rfl⟩;have X0:Zf w (w.alloc (Zu kd pu ⟨idx,i,2,pos,st,fi,sf⟩)):=(Fl _).alloc _;rw[<- q]at J;have ac:¬ (n:Int)<0:=Om
 go_enter Tryz.func163,Tryz.ntmps163
 go_upto_region 1 with fail
 have HC:=Hd (strs.ext hC X0);have HX:=Hd X0;rw[<- q];clear hC q X0;generalize w.alloc _=W at *;obtain⟨Z,Y,b1,b2,b7,M,L⟩:=id J;have HF:Hid (∀ W',Zf W W'->UnF x i kd K nw C cC cR R W'):=λW' f=>J.ext f
 clear J;have ae:(i:Int)<(nw:Int):=Om
 have ah:(0:Int)<=(i:Int):=Om
 have ag:¬ (nw:Int)<=(i:Int):=Om
 go_upto_region 19 with fail
 go_quiet (fail)
 have h:Zf W (W.drewN nq):=(Fl W).drewN nq;clear Z Y b1 b2 b7 M L;obtain⟨Z,Y,b1,b2,b7,M,L⟩:=HF.out _ h;have H1:=Hd (Ai1 (Z5 HX.out h) (strs.ext HC.out h));clear h HX HC HF;generalize W.drewN nq=I at *;go_upto_region 21 with fail
 go_quiet (fail)
 have h:Zf I (I.drewN nq):=(Fl I).drewN nq;have H2:=Hd (Ai1 (Z5 H1.out.1 h) (strs.ext H1.out.2 h));clear h H1 Z Y b1 b2 b7 M L;generalize I.drewN nq=W2 at *;by_cases G:n<x.contents.length
 ·obtain⟨b,o,e,_,A⟩:=Xh H2.out.2 (λe=>by rw[e]at G;simp at G);subst e;have hq:=A n (.string x.contents[n]) (by rw[List.getElem?_map,Ge G];rfl);rw[Addr.add_lit]at hq;have V:¬ (x.contents.length:Int)<=(n:Int):=Om
  have ab:(n:Int)<(x.contents.length:Int):=Om
  have ad:(0:Int)<=(n:Int):=Om
  have aa:Hid (x.contents[n]?=some x.contents[n]):=Ge G;clear A;go_wp2_with fail
  first|go_ret|go_ret2
  exact⟨rfl,H2.out.1⟩
 ·have V:(x.contents.length:Int)<=(n:Int):=Om
  have aa:Hid (x.contents[n]?=none):=List.getElem?_eq_none Om;go_wp2_with fail
  first|go_ret|go_ret2
  exact⟨rfl,H2.out.1⟩
theorem Zka(d:Zg)(us:List GRec)(t:Y0)(i:Nat)(J:t.id=i)(hc:t.cls=3)(hi:i<us.length)(kd H U:Nat)(pu:Option Addr)(m:Nat)(w:World)(hD:Vd d us kd pu H U w) :
  Calls Tryz.prog 163 #[.agg (Yn kd pu t).toArray,.int .i64 (m:Int)] w λe w'=>e=.returned (Ys ([us[i].pos,Ps us[i].tokens,Ps us[i].yomi][m]?))/\Zf w w':=by
 have mixed:Tryz.prog.follows .mixedOrders=true:=Kr
 obtain⟨ku,n,C,oC,cC,ca,cb,A,B,rfl,aa,Y,hA,hB,z,ab⟩:=Et hD t i J hc hi;generalize us[i]=x at *;clear hD hi;obtain⟨idx,id,cls,pos,st,fi,sf⟩:=t;simp only at J hc;subst J hc;obtain⟨Z,I⟩:∃ Z,Z=w.heap.size:=⟨_,rfl⟩;have X:Zf w (w.alloc (Zu kd (some ⟨ku,0,none⟩) ⟨idx,i,3,pos,st,fi,sf⟩)):=(Fl _).alloc _;rw[<- I]at Y;have ac:¬ (m:Int)<0:=Om
 go_enter Tryz.func163,Tryz.ntmps163
 go_upto_region 1 with fail
 have L:=Hd (Ai1 (strs.ext hA X) (strs.ext hB X));have HX:=Hd X;rw[<- I];clear hA hB I X;generalize w.alloc _=W at *;obtain⟨c1,c2,c3,c4,b1,b2,b8,lb,lk⟩:=id Y;have HF:Hid (∀ W',Zf W W'->UsF x i ku Z n C oC cC ca cb A B W'):=λW' f=>Y.ext f
 clear Y;have q:=Hd z;clear z;have ad:(i:Int)<(n:Int):=Om
 have ae:(0:Int)<=(i:Int):=Om
 have aa:¬ (n:Int)<=(i:Int):=Om
 go_upto_region 26 with fail
 go_quiet (fail)
 have V:Zf W (W.drewN nq):=(Fl W).drewN nq;clear c1 c2 c3 c4 b1 b2 b8 lb lk;obtain⟨c1,c2,c3,c4,b1,b2,b8,lb,lk⟩:=HF.out _ V;have M:=Hd (Ai1 (Z5 HX.out V) (Ai1 (strs.ext L.out.1 V) (strs.ext L.out.2 V)));clear V HX L HF;generalize W.drewN nq=h at *;rcases m with _|_|_|m
 ·go_upto_region 30 with fail
  go_quiet (fail)
  go_wp2_with fail
  first|go_ret|go_ret2
  exact⟨rfl,Z5 M.out.1 ((Fl h).drewN nq)⟩
 ·have CJ:=Hd (Ob x.tokens A ca h.drew (strs.ext M.out.2.1 (Fl h).drew) q.out.1 q.out.2.2.1);go_upto_region 32 with fail
  go_still_tail 10,Kr
  change wpList _ _ _ _ _ h.drew;go_wp2_with (first|(go_at_call 119;refine CJ.out.mono ?_;rintro e w6 ⟨rfl,G⟩;have K:=Hd (Z5 M.out.1 (Z5 ((Fl h).drew) G)))|fail)
  first|go_ret|go_ret2
  exact⟨rfl,K.out⟩
 ·have CJ:=Hd (Ob x.yomi B cb h.drew (strs.ext M.out.2.2 (Fl h).drew) (by have:=q.out;omega) q.out.2.2.2);go_upto_region 34 with fail
  go_still_tail 10,Kr
  change wpList _ _ _ _ _ h.drew;go_wp2_with (first|(go_at_call 119;refine CJ.out.mono ?_;rintro e w6 ⟨rfl,G⟩;have K:=Hd (Z5 M.out.1 (Z5 ((Fl h).drew) G)))|fail)
  first|go_ret|go_ret2
  exact⟨rfl,K.out⟩
 ·have e0:(((m+3:Nat):Int)==0)=false:=by rw[beq_eq_false_iff_ne];omega
  have e1:(((m+3:Nat):Int)==1)=false:=by rw[beq_eq_false_iff_ne];omega
  have e2:(((m+3:Nat):Int)==2)=false:=by rw[beq_eq_false_iff_ne];omega
  go_wp2_with fail
  first|go_ret|go_ret2
  exact⟨by simp,M.out.1⟩
end
section
open Go.RowKit DT SS TR LT
def Yu(ms:List Yy)(s:ByteArray):Option Int:=ms.foldl (λo m=>if m.1=s then some m.2 else o) none
theorem Rp(s:ByteArray)(ms:List Yy):look (Xj ms) s=(Yu ms s).map (Value.int .i8):=by
 suffices ∀ r:List Yy,look (Xj r.reverse) s=(Yu r.reverse s).map (Value.int .i8) by simpa using this ms.reverse
 intro r
 induction r with
 | nil=>rfl
 | cons m r ih =>
  rw[List.reverse_cons,Po,Wn];unfold Yu;rw[List.foldl_append];simp only[List.foldl_cons,List.foldl_nil]
  split
  ·rfl
  ·exact ih
theorem Ro{ms:List Yy}{s:ByteArray}{v:Int}(h:Yu ms s=some v):∃ m∈ms,m.2=v:=by
 suffices ∀ r:List Yy,Yu r.reverse s=some v->∃ m∈r,m.2=v by
  obtain⟨m,A,e⟩:=this ms.reverse (by simpa using h);exact⟨m,by simpa using A,e⟩
 intro r
 induction r with
 | nil=>intro h;cases h
 | cons m r ih =>
  intro h;unfold Yu at h;rw[List.reverse_cons,List.foldl_append]at h;simp only[List.foldl_cons,List.foldl_nil]at h
  split at h
  ·exact⟨m,by simp,Option.some.inj h⟩
  ·obtain⟨q,z,e⟩:=ih h;exact⟨q,by simp[z],e⟩
abbrev Lu:ByteArray:=⟨#[95,112,111,115,95,115,116,97,114,116]⟩
abbrev Fo:ByteArray:=⟨#[95,112,111,115,95,104,105,101,114,97,114,99,104,121]⟩
def Jk(ms:List Yy):Int:=(Yu ms Lu).getD 0
def Dx(ms:List Yy):Int:=match Yu ms Fo with|some v=>Jk ms+v|none=>1
def Lm(ms:List Yy)(c:List ByteArray):List ByteArray:=if Dx ms<=Jk ms\/(c.length:Int)<Dx ms then [] else (c.take (Dx ms).toNat).drop (Jk ms).toNat
theorem T5(w:World):(zeroValue 91).run Tryz.prog w=.ok (.int .i8 0) w:=Kr
theorem Zlw(d:Zg)(us:List GRec)(t:Y0)(i:Nat)(af:t.id=i)(hc:t.cls=2)(hi:i<(Ze d).length)(kd H U:Nat)(pu:Option Addr)(w:World)(hD:Vd d us kd pu H U w) :
  Calls Tryz.prog 71 #[.agg (Yn kd pu t).toArray] w λe w'=>∃ v,e=.returned v/\strs.R w' (λj=>w.heap.size<=j) (Lm (Zj d.unkMeta) (Ze d)[i].contents) [v]/\Zf w w':=by
 have mixed:Tryz.prog.follows .mixedOrders=true:=Kr
 obtain⟨nw,C,cC,R,cR,be,K0,hC,bg⟩:=Zcl hD t i af hc hi;obtain⟨_,mu,_,_,J,z⟩:=hD.dict.marks;have V:=hD.marks.2;generalize (Ze d)[i]=x at *;have l1:=Rp Lu (Zj d.unkMeta);have l2:=Rp Fo (Zj d.unkMeta);have b1:∀ v,Yu (Zj d.unkMeta) Lu=some v->0<=v/\v<=100:=λv h=>by obtain⟨m,hm,rfl⟩:=Ro h;exact V m hm
 have b2:∀ v,Yu (Zj d.unkMeta) Fo=some v->0<=v/\v<=100:=λv h=>by obtain⟨m,hm,rfl⟩:=Ro h;exact V m hm
 have Y:Lm (Zj d.unkMeta) x.contents=Lm (Zj d.unkMeta) x.contents:=rfl
 conv at Y=>rhs;unfold Lm Dx Jk
 obtain⟨G,ad⟩:∃ G,G=Lm (Zj d.unkMeta) x.contents:=⟨_,rfl⟩;rw[<- ad]at Y⊢;have ab:=Hd Y;clear Y ad hD hi V;generalize Xj (Zj d.unkMeta)=L at *;generalize Yu (Zj d.unkMeta) Lu=a at *;generalize Yu (Zj d.unkMeta) Fo=b at *;have HB:=Hd (Ai1 b1 b2);have ai:=Hd (Ai1 l1 l2);clear b1 b2 l1 l2;obtain⟨idx,id,cls,pos,st,fi,sf⟩:=t;simp only at af hc;subst af hc;obtain⟨rb,ae⟩:∃ rb,rb=w.heap.size:=⟨_,rfl⟩;have X0:Zf w (w.alloc (Zu kd pu ⟨idx,i,2,pos,st,fi,sf⟩)):=(Fl _).alloc _;rw[<- ae]at K0;go_enter Tryz.func71,Tryz.ntmps71
 go_upto_region 1 with fail
 have HC:=Hd (strs.ext hC X0);have HX:=Hd X0;have J:=X0.cell J id;have z:=z.keep X0 id;have HF:Hid (∀ W',Zf (w.alloc (Zu kd pu ⟨idx,i,2,pos,st,fi,sf⟩)) W'->UnF x i kd rb nw C cC cR R W'/\W'.cell? ⟨kd,17,none⟩=some (.map (some mu))/\Zq Yi mu L W'):=λW' f=>⟨K0.ext f,f.cell J id,z.keep f id⟩
 rw[<- ae];clear hC ae X0 K0 J z;generalize w.alloc _=W at *;obtain⟨⟨c1,c2,b1,b2,b7,lb,lk⟩,J,z⟩:=HF.out W (Fl _);have HM:=Hd z;clear z;have bd:(i:Int)<(nw:Int):=Om
 have bf:(0:Int)<=(i:Int):=Om
 obtain⟨st,I⟩:∃ st,st=a.getD 0:=⟨_,rfl⟩;obtain⟨en,Z⟩:∃ en,en=(match b with|some v=>st+v|none=>(1:Int)):=⟨_,rfl⟩;rw[<- I,<- Z]at ab;have aa:=Hd I;have ac:=Hd Z;clear I Z;go_upto_region 11 with fail
 go_cut [6] from 6 to 6 (λv6 wr=>v6=.int .i64 0/\W=wr)
 case first =>
  go_wp2_with fail
  go_meet
  case rel=>exact⟨rfl,rfl⟩
 case rest =>
 obtain⟨rfl,e⟩:=hcut;subst e;go_step;refine wp_seq_k λK hK=>?_
 go_cut [6] from 6 to 75 (λv6 wr=>v6=.int .i64 st/\W=wr)
 case first =>
  have hl:=ai.out.1;rcases a with _|v
  ·simp only[Option.map_none]at hl
   go_wp2_with (first
    | (at_lookup;refine Zk rfl _ _ true rfl Vv Tryz.underlying102 Tryz.underlying9 (T5 _) rfl HM.out Lu rfl ?_;simp only[if_true,hl,Option.getD_none,Option.isSome_none])
    | fail)
   go_meet
   case rel=>exact⟨by rw[aa.out];rfl,rfl⟩
  ·simp only[Option.map_some]at hl;have hv:=HB.out.1 v rfl;have hw:IntKind.i64.wrap v=v:=by rw[IntKind.wrap_i64];omega
   go_wp2_with (first
    | (at_lookup;refine Zk rfl _ _ true rfl Vv Tryz.underlying102 Tryz.underlying9 (T5 _) rfl HM.out Lu rfl ?_;simp only[if_true,hl,Option.getD_some,Option.isSome_some])
    | fail)
   go_meet
   case rel=>exact⟨by rw[aa.out];rfl,rfl⟩
 case rest =>
 obtain⟨rfl,e⟩:=hcut;subst e
 have I:0<=st/\st<=100:=by
  rw[aa.out]
  cases a with
  | none=>exact⟨by decide,by decide⟩
  | some v=>exact HB.out.1 v rfl
 have ah:=Hd I;clear I aa;go_step;refine wp_seq_k λK2 bl=>?_
 go_cut [9] from 9 to 9 (λv9 wr=>v9=.int .i64 1/\W=wr)
 case first =>
  go_wp2_with fail
  go_meet
  case rel=>exact⟨rfl,rfl⟩
 case rest =>
 obtain⟨rfl,e⟩:=hcut;subst e;go_step;refine wp_seq_k λK3 bk=>?_
 go_cut [9] from 9 to 90 (λv9 wr=>v9=.int .i64 en/\W=wr)
 case first =>
  have hl:=ai.out.2;rcases b with _|v
  ·simp only[Option.map_none]at hl
   go_wp2_with (first
    | (at_lookup;refine Zk rfl _ _ true rfl Vv Tryz.underlying102 Tryz.underlying9 (T5 _) rfl HM.out Fo rfl ?_;simp only[if_true,hl,Option.getD_none,Option.isSome_none])
    | fail)
   go_meet
   case rel=>exact⟨by rw[ac.out],rfl⟩
  ·simp only[Option.map_some]at hl;have hv:=HB.out.2 v rfl;have hw:IntKind.i64.wrap v=v:=by rw[IntKind.wrap_i64];omega
   have ar:=ah.out;have az:IntKind.i64.wrap (st+v)=st+v:=by rw[IntKind.wrap_i64];omega
   clear ar
   go_wp2_with (first
    | (at_lookup;refine Zk rfl _ _ true rfl Vv Tryz.underlying102 Tryz.underlying9 (T5 _) rfl HM.out Fo rfl ?_;simp only[if_true,hl,Option.getD_some,Option.isSome_some])
    | fail)
   go_meet
   case rel=>exact⟨by rw[ac.out],rfl⟩
 case rest =>
 obtain⟨rfl,e⟩:=hcut;subst e
 have Z:0<=en/\en<=200:=by
  have:=ah.out;rw[ac.out]
  cases b with
  | none=>exact⟨by show (0:Int)<=1;decide,by show (1:Int)<=200;decide⟩
  | some v=>have:=HB.out.2 v rfl;exact⟨by show 0<=st+v;omega,by show st+v<=200;omega⟩
 clear ac HB ai HM;go_step;go_upto_region 19 with fail
 go_quiet (fail)
 have F1:Zf W (W.drewN nq):=(Fl W).drewN nq;have H1:=Hd (Ai1 (Z5 HX.out F1) (strs.ext HC.out F1));clear F1 HX HC HF c1 c2 b1 b2 b7 lb lk J;generalize W.drewN nq=W1 at *;obtain⟨p,rfl⟩:∃ p:Nat,st=p:=⟨st.toNat,by have:=ah.out;omega⟩;obtain⟨q,rfl⟩:∃ q:Nat,en=q:=⟨en.toNat,Om⟩;by_cases h1:q<=p
 ·have hz:(q:Int)<=(p:Int):=Om
  have HR:Hid (G=[]):=by show _=_;rw[ab.out,if_pos (.inl hz)]
  go_wp2_with fail
  first|go_ret|go_ret2
  rw[HR.out];exact⟨_,rfl,⟨none,0,rfl,Nl _,λ_=>rfl,by simp,.inl rfl⟩,H1.out.1⟩
 by_cases h2:x.contents.length<q
 ·have hz:¬ (q:Int)<=(p:Int):=Om
  have ak:(x.contents.length:Int)<(q:Int):=Om
  have HR:Hid (G=[]):=by show _=_;rw[ab.out,if_pos (.inr ak)]
  go_wp2_with fail
  first|go_ret|go_ret2
  rw[HR.out];exact⟨_,rfl,⟨none,0,rfl,Nl _,λ_=>rfl,by simp,.inl rfl⟩,H1.out.1⟩
 have hz:¬ (q:Int)<=(p:Int):=Om
 have ak:¬ (x.contents.length:Int)<(q:Int):=Om
 have HR:Hid (G=(x.contents.take q).drop p):=by show _=_;rw[ab.out,if_neg Om];rfl
 have hw:IntKind.i64.wrap ((q:Int)-(p:Int))=((q-p:Nat):Int):=by rw[IntKind.wrap_i64];omega
 obtain⟨m,hm⟩:∃ m,m=q-p:=⟨_,rfl⟩;rw[<- hm]at hw;have ax:=Hd hm;clear hm;have a7:m<=200:=by have:=ax.out;omega
 have V:∀ W:World,(Instr.makeSlice 34 (.int .i64 0) (.int .i64 (m:Int))).run Tryz.prog W=.ok (.slice (some ⟨W.heap.size,0,none⟩) 0 m) (W.alloc (.cells (madeCells #[.string ⟨#[]⟩] m) 9)):=λW=>O9 0 m Om Om W
 go_wp2_with fail
 obtain⟨N,hN⟩:∃ N,N=W1.heap.size:=⟨_,rfl⟩;rw[<- hN];have F2:Zf W1 (W1.alloc (.cells (madeCells #[.string ⟨#[]⟩] m) 9)):=(Fl W1).alloc _;have K2:(W1.alloc (.cells (madeCells #[.string ⟨#[]⟩] m) 9)).heap[N]?=some (.cells (madeCells #[.string ⟨#[]⟩] m) 9 (0,0)):=alloc_at' _ _ hN;have bh:w.heap.size<=N:=by rw[hN];exact H1.out.1.size
 have bj:W1.heap.size<=N:=Om
 have aj:=Hd (Ai1 F2 K2);clear hN V F2 K2;generalize W1.alloc _=W2 at *
 go_loopg [13,14] q (λg1 aq ap wr=>∃ (j:Nat) (u:Value),aq=u/\ap=.int .i64 (j:Int)/\(p<=j/\j<=q)/\q<=j+g1/\Hid (RowK Ty.str 9 u ((x.contents.take j).drop p) N wr/\Zf W1 wr)/\N<=wr.heap.size)
 case atStart=>exact⟨p,_,rfl,rfl,Om,Om,⟨by rw[List.drop_eq_nil_of_le (by simp;omega)];exact Zez rfl aj.out.2 (by rw[So]) Om (Nl _),aj.out.1⟩,Nat.le_of_lt (Gs1.1 aj.out.2).1⟩
 case round =>
  obtain⟨j,u,rfl,rfl,hj,hg,A,bi⟩:=hrel;have HL:=Hd A.out.1.low;by_cases bc:j<q
  ·have a8:(j:Int)<(q:Int):=Om;have X:j<x.contents.length:=Om;obtain⟨bb,o,e,_,am⟩:=Xh H1.out.2 (λe=>by rw[e]at X;simp at X);subst e;have hq:=am j (.string x.contents[j]) (by rw[List.getElem?_map,Ge X];rfl);rw[Addr.add_lit]at hq;have hq:=A.out.2.cell hq id;have au:(j:Int)<(x.contents.length:Int):=Om;have ay:(0:Int)<=(j:Int):=Om
   have HT:Hid ((x.contents.take (j+1)).drop p=(x.contents.take j).drop p++[x.contents[j]]):=by
    show _=_;rw[List.take_succ_eq_append_getElem X,List.drop_append_of_le_length (by simp;omega)]
   have a1:=Tf H1.out.2 _ (List.getElem_mem X);generalize x.contents[j]=s at *;clear am
   go_wp2_with (first
    | (at_builtin;refine RowK.lst (v:=u13) rfl _ _ 34 rfl s [.string s] 16 ⟨wr.heap.size,0,none⟩ Tryz.underlying34 Mp (by decide) Om rfl rfl (A.out.1.ext ((Fl wr).alloc _)) (by rw[List.length_drop,List.length_take];omega) (by simp;omega) (Z2 _ _) ⟨rfl,Om⟩ ?_;intro v' w6 ao al av;have H6:=Hd (Ai1 ao al);clear ao al av)
    | fail)
   go_roundg (q-(j+1))
   case measure=>omega
   case rel=>exact⟨j+1,v',rfl,by go_num,Om,Om,⟨by rw[HT.out];exact H6.out.1,(A.out.2.alloc _).trans H6.out.2 (λk hk e=>by have:=(HL.out k e).1;omega)⟩,by have:=H6.out.2.size;rw[Za]at this;omega⟩
  ·have ej:j=q:=Om;have M:=A.out.1.texts;rw[ej,<- HR.out]at M;have ag:=HR.out;have HO:=Hd (strs.mono (O':=λk=>w.heap.size<=k) (λk _ q=>Om) (Wx M (λs hs=>by rw[ag]at hs;exact Tf H1.out.2 s (List.mem_of_mem_take (List.mem_of_mem_drop hs)))));have aw:=Hd (Z5 H1.out.1 A.out.2);have au:¬ (j:Int)<(q:Int):=Om;have a6:((x.contents.take j).drop p).length=G.length:=(by rw[ag,ej]);clear M A ag;go_wp2_with fail
   first|go_ret|go_ret2
   exact⟨_,rfl,HO.out,aw.out⟩
end
section
open Go.RowKit DT SS TR LT
theorem Zgo(d:Zg)(us:List GRec)(t:Y0)(i:Nat)(M:t.id=i)(hc:t.cls=1)(hi:i<(Zw d).length)(kd H U:Nat)(pu:Option Addr)(w:World)(hD:Vd d us kd pu H U w) :
  Calls Tryz.prog 71 #[.agg (Yn kd pu t).toArray] w λe w'=>∃ v,e=.returned v/\strs.R w' (λj=>w.heap.size<=j) (Zw d)[i].pos [v]/\Zf w w':=by
 have mixed:Tryz.prog.follows .mixedOrders=true:=Kr
 obtain⟨nw,nl,P,cP,Q,cQ,gl,C,cC,R,cR,am,K0,hP,hC,G,_⟩:=Zdj hD t i M hc hi;generalize (Zw d)[i]=x at *;clear hD hi;obtain⟨idx,id,cls,pos,st,fi,sf⟩:=t;simp only at M hc;subst M hc;obtain⟨rb,I⟩:∃ rb,rb=w.heap.size:=⟨_,rfl⟩;have X0:Zf w (w.alloc (Zu kd pu ⟨idx,i,1,pos,st,fi,sf⟩)):=(Fl _).alloc _;rw[<- I]at K0;go_enter Tryz.func71,Tryz.ntmps71
 go_upto_region 1 with fail
 have HP:=Hd hP;have HC:=Hd hC;have HX:=Hd X0;rw[<- I];have au:=Hd I;clear hP hC I X0;generalize w.alloc _=W at *;obtain⟨p1,p2,p3,c1,c2,b1,b2,b7,lb,lk⟩:=id K0;have HF:Hid (∀ W',Zf W W'->KnF x i kd rb nw nl P cP cQ gl C cC cR Q R W'):=λW' f=>K0.ext f
 clear K0;have al:(i:Int)<(nw:Int):=Om
 have ao:(0:Int)<=(i:Int):=Om
 have ab:∀ W:World,(Instr.makeSlice 34 (.int .i64 0) (.int .i64 (x.pos.length:Int))).run Tryz.prog W=.ok (.slice (some ⟨W.heap.size,0,none⟩) 0 x.pos.length) (W.alloc (.cells (madeCells #[.string ⟨#[]⟩] x.pos.length) 9)):=λW=>O9 0 x.pos.length Om Om W
 go_upto_region 3 with fail
 go_still_tail 11,Kr
 change wpList _ _ _ _ _ W.drew;go_wp2_with fail
 obtain⟨N,hN⟩:∃ N,N=W.heap.size:=⟨_,rfl⟩;rw[<- hN];have F2:Zf W (W.alloc (.cells (madeCells #[.string ⟨#[]⟩] x.pos.length) 9)).drew:=((Fl W).alloc _).drew;have K2:(W.alloc (.cells (madeCells #[.string ⟨#[]⟩] x.pos.length) 9)).drew.heap[N]?=some (.cells (madeCells #[.string ⟨#[]⟩] x.pos.length) 9 (0,0)):=alloc_at' _ _ hN;have ap:w.heap.size<=N:=by rw[hN];exact HX.out.size
 have ar:W.heap.size<=N:=Om
 clear hN ab p1 p2 p3 c1 c2 b1 b2 b7 lb lk;obtain⟨p1,p2,p3,c1,c2,b1,b2,b7,lb,lk⟩:=HF.out _ F2;generalize (W.alloc _).drew=W2 at *;go_quiet (fail)
 have F3:Zf W (W2.drewN nq):=F2.drewN nq;have K3:(W2.drewN nq).heap[N]?=some (.cells (madeCells #[.string ⟨#[]⟩] x.pos.length) 9 (0,0)):=K2;have V:=Hd (Ai1 F3 K3);clear F2 K2 F3 K3 p1 p2 p3 c1 c2 b1 b2 b7 lb lk;generalize W2.drewN nq=W3 at *;obtain⟨K,J⟩:∃ n,n=x.pos.length:=⟨_,rfl⟩;have h:=Hd J;rw[<- J];clear J;go_wp2_with fail
 have J:K<=50:=by rw[h.out];exact G.1
 have Z:=Hd G.2.2;clear G
 go_loopg [3,43] K (λg1 v3 aa wr=>∃ (j:Nat) (u:Value),v3=u/\aa=.int .i64 (j:Int)/\j<=K/\K<=j+g1/\Hid (RowK Ty.str 9 u (x.pos.take j) N wr/\Zf W wr)/\N<=wr.heap.size)
 case atStart=>exact⟨0,_,rfl,rfl,Om,Om,⟨Zez rfl V.out.2 (by rw[So];exact h.out.symm) Om (Nl _),V.out.1⟩,Nat.le_of_lt (Gs1.1 V.out.2).1⟩
 case round =>
  obtain⟨j,u,rfl,rfl,hj,hg,L,aq⟩:=hrel;have HL:=Hd L.out.1.low;obtain⟨p1,p2,p3,c1,c2,b1,b2,b7,lb,lk⟩:=HF.out _ L.out.2;by_cases A:j<K
  ·have ah:(j:Int)<(K:Int):=Om;have af:(0:Int)<=(j:Int):=Om;obtain⟨b,o,k,rfl,hq,hk,hn⟩:=HP.out j (by rw[<- h.out];exact A);have XW:=HX.out.trans L.out.2 (λ_ _ e=>e);have hq:=XW.cell hq id;have hn:=XW.cell hn id;have ak:(0:Int)<=(k:Int)+1:=Om;have aj:(k:Int)+1<(nl:Int)+1:=Om;have ai:((k:Int)+1).toNat=k+1:=Om;have HT:Hid (x.pos.take (j+1)=x.pos.take j++[x.pos[j]'(by rw[<- h.out];exact A)]):=List.take_succ_eq_append_getElem (by rw[<- h.out];exact A);have av:=Hd XW.size;have ag:=Z.out _ (List.getElem_mem (show j<x.pos.length by rw[<- h.out];exact A));generalize x.pos[j]'(by rw[<- h.out];exact A)=s at *;clear XW
   go_wp2_with (first
    | (at_builtin;refine RowK.lst (v:=u3) rfl _ _ 34 rfl s [.string s] 16 ⟨wr.heap.size,0,none⟩ Tryz.underlying34 Mp (by decide) Om rfl rfl (L.out.1.ext ((Fl wr).alloc _)) (by rw[List.length_take];omega) (by simp;omega) (Z2 _ _) ⟨rfl,Om⟩ ?_;intro v' w6 Y X ad;have H6:=Hd (Ai1 Y X);clear Y X ad)
    | fail)
   go_roundg (K-(j+1))
   case measure=>omega
   case rel=>exact⟨j+1,v',rfl,by go_num,Om,Om,⟨by rw[HT.out];exact H6.out.1,(L.out.2.alloc _).trans H6.out.2 (λk hk e=>by have:=(HL.out k e).1;omega)⟩,by have:=H6.out.2.size;rw[Za]at this;omega⟩
  ·obtain rfl:j=K:=Om
   have z:=L.out.1.texts;have ac:j=x.pos.length:=h.out;rw[ac,List.take_length]at z;have HO:=Hd (strs.mono (O':=λk=>w.heap.size<=k) (λk _ q=>Om) (Wx z (λs hs=>by have:=Z.out s hs;omega)));have ae:=Hd L.out.2;clear z L h;go_wp2_with fail
   first|go_ret|go_ret2
   exact⟨_,rfl,HO.out,HX.out.trans ae.out (λ_ _ e=>e)⟩
end
section
open Go.RowKit DT SS TR LT
def O6(d:Zg)(us:List GRec)(t:Y0):List ByteArray :=
 if t.cls=1 then (wOf d t).pos else if t.cls=2 then Lm (Zj d.unkMeta) (uOf d t).contents else if t.cls=3 then [(rOf us t).pos] else []
def Zo(d:Zg)(us:List GRec)(t:Y0)(key:ByteArray):Option ByteArray :=
 if t.cls=1 then (Yu (Zj d.meta0) key).bind (Qo (Y8 d us t)) else if t.cls=2 then (Yu (Zj d.unkMeta) key).bind (Qo (Y8 d us t)) else none
theorem Uh.cases{d:Zg}{us:List GRec}{t:Y0}(h:Uh d us t):t.cls=0\/(∃ i:Nat,t.cls=1/\t.id=i/\∃ hi:i<(Zw d).length,wOf d t=(Zw d)[i])\/(∃ i:Nat,t.cls=2/\t.id=i/\∃ hi:i<(Ze d).length,uOf d t=(Ze d)[i])\/∃ i:Nat,t.cls=3/\t.id=i/\∃ hi:i<us.length,rOf us t=us[i]:=by
 have q:=h.cls;rcases Nat.lt_or_ge t.cls 1 with a|a
 ·left;omega
 rcases Nat.lt_or_ge t.cls 2 with b|b
 ·have e:t.cls=1:=Om
  obtain⟨i,h1,h2⟩:=h.known e;refine .inr (.inl ⟨i,e,h1,h2,?_⟩);unfold wOf;rw[h1,Int.toNat_natCast,List.getD_eq_getElem?_getD,Ge h2];rfl
 rcases Nat.lt_or_ge t.cls 3 with c|c
 ·have e:t.cls=2:=Om
  obtain⟨i,h1,h2⟩:=h.unk e;refine .inr (.inr (.inl ⟨i,e,h1,h2,?_⟩));unfold uOf;rw[h1,Int.toNat_natCast,List.getD_eq_getElem?_getD,Ge h2];rfl
 ·have e:t.cls=3:=Om
  obtain⟨i,h1,h2⟩:=h.user e;refine .inr (.inr (.inr ⟨i,e,h1,h2,?_⟩));unfold rOf;rw[h1,Int.toNat_natCast,List.getD_eq_getElem?_getD,Ge h2];rfl
section
variable{d:Zg}{us:List GRec}{t:Y0}{kd H U:Nat}{pu:Option Addr}{w:World}
theorem Nw{w:World}{O:Nat->Prop}:strs.R w O [] [.slice none 0 0]:=⟨none,0,rfl,Nl _,λ_=>rfl,by simp,.inl rfl⟩
theorem Zbs(z:Uh d us t)(q:Vd d us kd pu H U w) :
  Calls Tryz.prog 70 #[.agg (Yn kd pu t).toArray] w λe w'=>∃ v,e=.returned v/\strs.R w' (λj=>w.heap.size<=j) (Y8 d us t) [v]/\Zf w w':=by
 rcases z.cases with e|⟨i,e,h1,h2,h3⟩|⟨i,e,h1,h2,h3⟩|⟨i,e,h1,h2,h3⟩
 ·refine (Zhc t e kd pu w).mono λA w' h=>⟨_,h.1,?_,h.2⟩
  unfold Y8;rw[e];exact Nw
 ·have:=Zdq d us t i h1 e h2 kd H U pu w q;unfold Y8;rw[e,h3];exact this
 ·have:=Zj9 d us t i h1 e h2 kd H U pu w q;unfold Y8;rw[e,h3];exact this
 ·have:=Zhb d us t i h1 e h2 kd H U pu w q;unfold Y8;rw[e,h3];exact this
theorem Zet(z:Uh d us t)(q:Vd d us kd pu H U w) :
  Calls Tryz.prog 71 #[.agg (Yn kd pu t).toArray] w λe w'=>∃ v,e=.returned v/\strs.R w' (λj=>w.heap.size<=j) (O6 d us t) [v]/\Zf w w':=by
 rcases z.cases with e|⟨i,e,h1,h2,h3⟩|⟨i,e,h1,h2,h3⟩|⟨i,e,h1,h2,h3⟩
 ·refine (Zi1 t e kd pu w).mono λA w' h=>⟨_,h.1,?_,h.2⟩
  unfold O6;rw[e];exact Nw
 ·have:=Zgo d us t i h1 e h2 kd H U pu w q;unfold O6;rw[e,h3];exact this
 ·have:=Zlw d us t i h1 e h2 kd H U pu w q;unfold O6;rw[e,h3];exact this
 ·have:=Zi0 d us t i h1 e h2 kd H U pu w q;unfold O6;rw[e,h3];exact this
theorem Zfb(z:Uh d us t)(k:Int)(G:k<=9223372036854775807)(q:Vd d us kd pu H U w) :
  Calls Tryz.prog 163 #[.agg (Yn kd pu t).toArray,.int .i64 k] w λe w'=>e=.returned (Ys (Qo (Y8 d us t) k))/\Zf w w':=by
 by_cases h:k<0
 ·have e:Qo (Y8 d us t) k=none:=if_pos h;rw[e];exact Zfa t kd pu k h w
 obtain⟨n,rfl⟩:∃ n:Nat,k=n:=⟨k.toNat,Om⟩;have A:∀ l:List ByteArray,Qo l n=l[n]?:=λl=>if_neg h
 rw[A];rcases z.cases with e|⟨i,e,h1,h2,h3⟩|⟨i,e,h1,h2,h3⟩|⟨i,e,h1,h2,h3⟩
 ·have:=Zkb t e kd pu n w;unfold Y8;rw[e];exact this
 ·have:=Zhd d us t i h1 e h2 kd H U pu n Om w q;unfold Y8;rw[e,h3];exact this
 ·have:=Zmm d us t i h1 e h2 kd H U pu n w q;unfold Y8;rw[e,h3];exact this
 ·have:=Zka d us t i h1 e h2 kd H U pu n w q;unfold Y8;rw[e,h3];exact this
end
def Yj(c:Nat):ByteArray:=if c=0 then ⟨#[68,85,77,77,89]⟩ else if c=1 then ⟨#[75,78,79,87,78]⟩ else if c=2 then ⟨#[85,78,75,78,79,87,78]⟩ else if c=3 then ⟨#[85,83,69,82]⟩ else ⟨#[]⟩
theorem Cx(c:Nat)(h:c<=3)(w:World):Calls Tryz.prog 79 #[.int .i64 (c:Int)] w λe w'=>e=.returned (.string (Yj c))/\Zf w w':=by
 rcases c with _|_|_|_|c
 ·go_enter Tryz.func79,Tryz.ntmps79
  go_wp2_with fail
  first|go_ret|go_ret2
  exact⟨rfl,Fl _⟩
 ·go_enter Tryz.func79,Tryz.ntmps79
  go_wp2_with fail
  first|go_ret|go_ret2
  exact⟨rfl,Fl _⟩
 ·go_enter Tryz.func79,Tryz.ntmps79
  go_wp2_with fail
  first|go_ret|go_ret2
  exact⟨rfl,Fl _⟩
 ·go_enter Tryz.func79,Tryz.ntmps79
  go_wp2_with fail
  first|go_ret|go_ret2
  exact⟨rfl,Fl _⟩
 ·omega
end
section
open Go.RowKit DT SS TR LT
theorem L5{w:World}{q kd:Nat}{pu:Option Addr}{idx:Nat}{id:Int}{cls pos st A:Nat}{z:ByteArray}(h:w.heap[q]?=some (Zu kd pu ⟨idx,id,cls,pos,st,A,z⟩)) :
  w.cell? ⟨q,0,none⟩=some (.int .i64 (idx:Int))/\w.cell? ⟨q,1,none⟩=some (.int .i64 id)/\w.cell? ⟨q,2,none⟩=some (.int .i64 (cls:Int))/\w.cell? ⟨q,3,none⟩=some (.int .i64 (pos:Int))/\w.cell? ⟨q,4,none⟩=some (.int .i64 (st:Int))/\w.cell? ⟨q,5,none⟩=some (.int .i64 (A:Int))/\w.cell? ⟨q,6,none⟩=some (.string z)/\w.cell? ⟨q,7,none⟩=some (.pointer (some ⟨kd,0,none⟩))/\w.cell? ⟨q,8,none⟩=some (.pointer pu)/\q<w.heap.size :=
 ⟨cell_of h 0 _ rfl,cell_of h 1 _ rfl,cell_of h 2 _ rfl,cell_of h 3 _ rfl,cell_of h 4 _ rfl,cell_of h 5 _ rfl,cell_of h 6 _ rfl,cell_of h 7 _ rfl,cell_of h 8 _ rfl,(Gs1.1 h).1⟩
theorem Fa(t:Y0)(h:t.cls=0\/t.cls=3)(kd:Nat)(pu:Option Addr)(key:ByteArray)(w:World):Calls Tryz.prog 124 #[.agg (Yn kd pu t).toArray,.string key] w λe w'=>e=.returned (Ys none)/\Zf w w':=by
 obtain⟨idx,id,cls,pos,st,z,q⟩:=t;simp only at h;rcases h with rfl|rfl
 ·go_enter Tryz.func124,Tryz.ntmps124
  go_wp2_with fail
  first|go_ret|go_ret2
  exact⟨rfl,(Fl _).alloc _⟩
 ·go_enter Tryz.func124,Tryz.ntmps124
  go_wp2_with fail
  first|go_ret|go_ret2
  exact⟨rfl,(Fl _).alloc _⟩
theorem Zlz{d:Zg}{us:List GRec}{t:Y0}{kd H U:Nat}{pu:Option Addr}{w:World}(Z:Uh d us t)(hc:t.cls=1)(key:ByteArray)(J:Vd d us kd pu H U w) :
  Calls Tryz.prog 124 #[.agg (Yn kd pu t).toArray,.string key] w λe w'=>e=.returned (Ys ((Yu (Zj d.meta0) key).bind (Qo (Y8 d us t))))/\Zf w w':=by
 obtain⟨mm,_,z,I,_,_⟩:=J.dict.marks;have G:=J.marks.1;have hl:=Rp key (Zj d.meta0);have hb:∀ v,Yu (Zj d.meta0) key=some v->0<=v/\v<=100:=λv h=>by obtain⟨m,hm,rfl⟩:=Ro h;exact G m hm
 have K:Zf w (w.alloc (Zu kd pu t)):=(Fl _).alloc _;have CF:Hid (∀ (W:World) (k:Int),Zf w W->k<=9223372036854775807->Calls Tryz.prog 163 #[.agg (Yn kd pu t).toArray,.int .i64 k] W λe w'=>e=.returned (Ys (Qo (Y8 d us t) k))/\Zf W w'):=λW k f hk=>Zfb Z k hk (J.ext f)
 have z:=K.cell z id;have HM:=Hd (I.keep K id);have lk:=lt_of_cell z;clear I Z J G;generalize Y8 d us t=fs at *;generalize Xj (Zj d.meta0)=L at *;generalize Yu (Zj d.meta0) key=a at *;obtain⟨idx,id,cls,pos,st,fi,Y⟩:=t;simp only at hc;subst hc;obtain⟨M,q⟩:∃ M,M=w.heap.size:=⟨_,rfl⟩;have K1:(w.alloc (Zu kd pu ⟨idx,id,1,pos,st,fi,Y⟩)).heap[M]?=some (Zu kd pu ⟨idx,id,1,pos,st,fi,Y⟩):=alloc_at' _ _ q;obtain⟨b0,b1,b2,b3,b4,b5,b6,b7,b8,lb⟩:=L5 K1;clear K1;go_enter Tryz.func124,Tryz.ntmps124
 go_upto_region 2 with fail
 have X:=Hd K;rw[<- q];clear q K;generalize w.alloc _=W at *;rcases a with _|v
 ·simp only[Option.map_none]at hl
  go_wp2_with (first
   | (at_lookup;refine Zk rfl _ _ true rfl Vv Tryz.underlying102 Tryz.underlying9 (T5 _) rfl HM.out key rfl ?_;simp only[if_true,hl,Option.getD_none,Option.isSome_none])
   | fail)
  first|go_ret|go_ret2
  exact⟨rfl,X.out⟩
 ·simp only[Option.map_some]at hl;have hv:=hb v rfl;have hw:IntKind.i64.wrap v=v:=by rw[IntKind.wrap_i64];omega
  clear hb
  go_upto_region 13 with (first
   | (at_lookup;refine Zk rfl _ _ true rfl Vv Tryz.underlying102 Tryz.underlying9 (T5 _) rfl HM.out key rfl ?_;simp only[if_true,hl,Option.getD_some,Option.isSome_some])
   | fail)
  go_wp2_with (first
   | (go_at_call 163;refine (CF.out W v X.out Om).mono ?_;rintro e w5 ⟨rfl,A⟩;have V:=Hd (Z5 X.out A);clear A)
   | fail)
  first|go_ret|go_ret2
  exact⟨rfl,V.out⟩
theorem Zly{d:Zg}{us:List GRec}{t:Y0}{kd H U:Nat}{pu:Option Addr}{w:World}(Z:Uh d us t)(hc:t.cls=2)(key:ByteArray)(J:Vd d us kd pu H U w) :
  Calls Tryz.prog 124 #[.agg (Yn kd pu t).toArray,.string key] w λe w'=>e=.returned (Ys ((Yu (Zj d.unkMeta) key).bind (Qo (Y8 d us t))))/\Zf w w':=by
 obtain⟨_,mm,_,_,z,I⟩:=J.dict.marks;have G:=J.marks.2;have hl:=Rp key (Zj d.unkMeta);have hb:∀ v,Yu (Zj d.unkMeta) key=some v->0<=v/\v<=100:=λv h=>by obtain⟨m,hm,rfl⟩:=Ro h;exact G m hm
 have K:Zf w (w.alloc (Zu kd pu t)):=(Fl _).alloc _;have CF:Hid (∀ (W:World) (k:Int),Zf w W->k<=9223372036854775807->Calls Tryz.prog 163 #[.agg (Yn kd pu t).toArray,.int .i64 k] W λe w'=>e=.returned (Ys (Qo (Y8 d us t) k))/\Zf W w'):=λW k f hk=>Zfb Z k hk (J.ext f)
 have z:=K.cell z id;have HM:=Hd (I.keep K id);have lk:=lt_of_cell z;clear I Z J G;generalize Y8 d us t=fs at *;generalize Xj (Zj d.unkMeta)=L at *;generalize Yu (Zj d.unkMeta) key=a at *;obtain⟨idx,id,cls,pos,st,fi,Y⟩:=t;simp only at hc;subst hc;obtain⟨M,q⟩:∃ M,M=w.heap.size:=⟨_,rfl⟩;have K1:(w.alloc (Zu kd pu ⟨idx,id,2,pos,st,fi,Y⟩)).heap[M]?=some (Zu kd pu ⟨idx,id,2,pos,st,fi,Y⟩):=alloc_at' _ _ q;obtain⟨b0,b1,b2,b3,b4,b5,b6,b7,b8,lb⟩:=L5 K1;clear K1;go_enter Tryz.func124,Tryz.ntmps124
 go_upto_region 2 with fail
 have X:=Hd K;rw[<- q];clear q K;generalize w.alloc _=W at *;rcases a with _|v
 ·simp only[Option.map_none]at hl
  go_wp2_with (first
   | (at_lookup;refine Zk rfl _ _ true rfl Vv Tryz.underlying102 Tryz.underlying9 (T5 _) rfl HM.out key rfl ?_;simp only[if_true,hl,Option.getD_none,Option.isSome_none])
   | fail)
  first|go_ret|go_ret2
  exact⟨rfl,X.out⟩
 ·simp only[Option.map_some]at hl;have hv:=hb v rfl;have hw:IntKind.i64.wrap v=v:=by rw[IntKind.wrap_i64];omega
  clear hb
  go_upto_region 13 with (first
   | (at_lookup;refine Zk rfl _ _ true rfl Vv Tryz.underlying102 Tryz.underlying9 (T5 _) rfl HM.out key rfl ?_;simp only[if_true,hl,Option.getD_some,Option.isSome_some])
   | fail)
  go_wp2_with (first
   | (go_at_call 163;refine (CF.out W v X.out Om).mono ?_;rintro e w5 ⟨rfl,A⟩;have V:=Hd (Z5 X.out A);clear A)
   | fail)
  first|go_ret|go_ret2
  exact⟨rfl,V.out⟩
theorem Pk{d:Zg}{us:List GRec}{t:Y0}{kd H U:Nat}{pu:Option Addr}{w:World}(h:Uh d us t)(key:ByteArray)(q:Vd d us kd pu H U w) :
  Calls Tryz.prog 124 #[.agg (Yn kd pu t).toArray,.string key] w λe w'=>e=.returned (Ys (Zo d us t key))/\Zf w w':=by
 rcases h.cases with e|⟨i,e,_⟩|⟨i,e,_⟩|⟨i,e,_⟩
 ·have:=Fa t (.inl e) kd pu key w;unfold Zo;rw[e];exact this
 ·have:=Zlz h e key q;unfold Zo;rw[e];exact this
 ·have:=Zly h e key q;unfold Zo;rw[e];exact this
 ·have:=Fa t (.inr e) kd pu key w;unfold Zo;rw[e];exact this
abbrev Ue:ByteArray:=⟨#[95,98,97,115,101]⟩
abbrev Uc:ByteArray:=⟨#[95,114,101,97,100,105,110,103]⟩
abbrev Ud:ByteArray:=⟨#[95,112,114,111,110,117,110,99,105,97,116,105,111,110]⟩
abbrev Iw:ByteArray:=⟨#[95,105,110,102,108,101,99,116,105,111,110,97,108,95,116,121,112,101]⟩
abbrev Pr:ByteArray:=⟨#[95,105,110,102,108,101,99,116,105,111,110,97,108,95,102,111,114,109]⟩
theorem Kq{d:Zg}{us:List GRec}{t:Y0}{kd H U:Nat}{pu:Option Addr}{w:World}(I:Uh d us t)(J:Vd d us kd pu H U w) :
  Calls Tryz.prog 73 #[.agg (Yn kd pu t).toArray] w λe w'=>e=.returned (Ys (Zo d us t Ue))/\Zf w w':=by
 have z:Zf w (w.alloc (Zu kd pu t)):=(Fl _).alloc _;have X:=Hd (Pk I Ue (J.ext z));clear I J;generalize Zo d us t Ue=L at *;obtain⟨idx,id,cls,pos,st,M,K⟩:=t;obtain⟨G,h⟩:∃ G,G=w.heap.size:=⟨_,rfl⟩;obtain⟨b0,b1,b2,b3,b4,b5,b6,b7,b8,Z⟩:=L5 (alloc_at' w (Zu kd pu ⟨idx,id,cls,pos,st,M,K⟩) h);go_enter Tryz.func73,Tryz.ntmps73
 go_upto_region 1 with fail
 have V:=Hd z;rw[<- h];clear h z;generalize w.alloc _=W at *
 go_wp2_with (first
  | (go_at_call 124;refine X.out.mono ?_;rintro e Y ⟨rfl,q⟩;have A:=Hd (Z5 V.out q);clear q)
  | fail)
 first|go_ret|go_ret2
 exact⟨rfl,A.out⟩
theorem Ko{d:Zg}{us:List GRec}{t:Y0}{kd H U:Nat}{pu:Option Addr}{w:World}(I:Uh d us t)(J:Vd d us kd pu H U w) :
  Calls Tryz.prog 74 #[.agg (Yn kd pu t).toArray] w λe w'=>e=.returned (Ys (Zo d us t Uc))/\Zf w w':=by
 have z:Zf w (w.alloc (Zu kd pu t)):=(Fl _).alloc _;have X:=Hd (Pk I Uc (J.ext z));clear I J;generalize Zo d us t Uc=L at *;obtain⟨idx,id,cls,pos,st,M,K⟩:=t;obtain⟨G,h⟩:∃ G,G=w.heap.size:=⟨_,rfl⟩;obtain⟨b0,b1,b2,b3,b4,b5,b6,b7,b8,Z⟩:=L5 (alloc_at' w (Zu kd pu ⟨idx,id,cls,pos,st,M,K⟩) h);go_enter Tryz.func74,Tryz.ntmps74
 go_upto_region 1 with fail
 have V:=Hd z;rw[<- h];clear h z;generalize w.alloc _=W at *
 go_wp2_with (first
  | (go_at_call 124;refine X.out.mono ?_;rintro e Y ⟨rfl,q⟩;have A:=Hd (Z5 V.out q);clear q)
  | fail)
 first|go_ret|go_ret2
 exact⟨rfl,A.out⟩
theorem Kp{d:Zg}{us:List GRec}{t:Y0}{kd H U:Nat}{pu:Option Addr}{w:World}(I:Uh d us t)(J:Vd d us kd pu H U w) :
  Calls Tryz.prog 75 #[.agg (Yn kd pu t).toArray] w λe w'=>e=.returned (Ys (Zo d us t Ud))/\Zf w w':=by
 have z:Zf w (w.alloc (Zu kd pu t)):=(Fl _).alloc _;have X:=Hd (Pk I Ud (J.ext z));clear I J;generalize Zo d us t Ud=L at *;obtain⟨idx,id,cls,pos,st,M,K⟩:=t;obtain⟨G,h⟩:∃ G,G=w.heap.size:=⟨_,rfl⟩;obtain⟨b0,b1,b2,b3,b4,b5,b6,b7,b8,Z⟩:=L5 (alloc_at' w (Zu kd pu ⟨idx,id,cls,pos,st,M,K⟩) h);go_enter Tryz.func75,Tryz.ntmps75
 go_upto_region 1 with fail
 have V:=Hd z;rw[<- h];clear h z;generalize w.alloc _=W at *
 go_wp2_with (first
  | (go_at_call 124;refine X.out.mono ?_;rintro e Y ⟨rfl,q⟩;have A:=Hd (Z5 V.out q);clear q)
  | fail)
 first|go_ret|go_ret2
 exact⟨rfl,A.out⟩
theorem Zdn{d:Zg}{us:List GRec}{t:Y0}{kd H U:Nat}{pu:Option Addr}{w:World}(I:Uh d us t)(J:Vd d us kd pu H U w) :
  Calls Tryz.prog 76 #[.agg (Yn kd pu t).toArray] w λe w'=>e=.returned (Ys (Zo d us t Iw))/\Zf w w':=by
 have z:Zf w (w.alloc (Zu kd pu t)):=(Fl _).alloc _;have X:=Hd (Pk I Iw (J.ext z));clear I J;generalize Zo d us t Iw=L at *;obtain⟨idx,id,cls,pos,st,M,K⟩:=t;obtain⟨G,h⟩:∃ G,G=w.heap.size:=⟨_,rfl⟩;obtain⟨b0,b1,b2,b3,b4,b5,b6,b7,b8,Z⟩:=L5 (alloc_at' w (Zu kd pu ⟨idx,id,cls,pos,st,M,K⟩) h);go_enter Tryz.func76,Tryz.ntmps76
 go_upto_region 1 with fail
 have V:=Hd z;rw[<- h];clear h z;generalize w.alloc _=W at *
 go_wp2_with (first
  | (go_at_call 124;refine X.out.mono ?_;rintro e Y ⟨rfl,q⟩;have A:=Hd (Z5 V.out q);clear q)
  | fail)
 first|go_ret|go_ret2
 exact⟨rfl,A.out⟩
theorem Zbq{d:Zg}{us:List GRec}{t:Y0}{kd H U:Nat}{pu:Option Addr}{w:World}(I:Uh d us t)(J:Vd d us kd pu H U w) :
  Calls Tryz.prog 77 #[.agg (Yn kd pu t).toArray] w λe w'=>e=.returned (Ys (Zo d us t Pr))/\Zf w w':=by
 have z:Zf w (w.alloc (Zu kd pu t)):=(Fl _).alloc _;have X:=Hd (Pk I Pr (J.ext z));clear I J;generalize Zo d us t Pr=L at *;obtain⟨idx,id,cls,pos,st,M,K⟩:=t;obtain⟨G,h⟩:∃ G,G=w.heap.size:=⟨_,rfl⟩;obtain⟨b0,b1,b2,b3,b4,b5,b6,b7,b8,Z⟩:=L5 (alloc_at' w (Zu kd pu ⟨idx,id,cls,pos,st,M,K⟩) h);go_enter Tryz.func77,Tryz.ntmps77
 go_upto_region 1 with fail
 have V:=Hd z;rw[<- h];clear h z;generalize w.alloc _=W at *
 go_wp2_with (first
  | (go_at_call 124;refine X.out.mono ?_;rintro e Y ⟨rfl,q⟩;have A:=Hd (Z5 V.out q);clear q)
  | fail)
 first|go_ret|go_ret2
 exact⟨rfl,A.out⟩
theorem Sn(s:ByteArray)(b:Bool)(w:World):Calls Tryz.prog 72 #[.string s,.bool b] w λe w'=>e=.returned (.agg #[.string s,.bool b])/\Zf w w':=by
 go_enter Tryz.func72,Tryz.ntmps72
 go_wp2_with fail
 have X:Zf w (w.alloc (.cells #[.string s,.bool b] 64)):=(Fl w).alloc _;have z0:(w.alloc (.cells #[.string s,.bool b] 64)).cell? ⟨w.heap.size,0,none⟩=some (.string s):=cell_of (alloc_at w _) 0 _ rfl;have h:(w.alloc (.cells #[.string s,.bool b] 64)).cell? ⟨w.heap.size,1,none⟩=some (.bool b):=cell_of (alloc_at w _) 1 _ rfl;generalize w.alloc _=W at *;refine bodyPost_ret (by simp[results,Tryz.results72,z0,h,go_sem];try rfl) rfl ?_;exact⟨rfl,X⟩
end
section
open Go.RowKit DT SS TR LT
def Bc(w:World)(B:Nat)(x:Option (List ByteArray×List ByteArray))(v:Value):Prop :=
 match x with
 | none=>v=.pointer none
 | some (a,b)=>∃ g h v2,v=.pointer (some ⟨g,0,none⟩)/\w.cell? ⟨g,0,none⟩=some h/\w.cell? ⟨g,1,none⟩=some v2/\B<=g/\strs.R w (λj=>B<=j) a [h]/\strs.R w (λj=>B<=j) b [v2]
def Px(us:List GRec)(t:Y0):Option (List ByteArray×List ByteArray):=if t.cls=3 then some ((rOf us t).tokens,(rOf us t).yomi) else none
theorem Nh(t:Y0)(h:t.cls=0\/t.cls=1\/t.cls=2)(kd:Nat)(pu:Option Addr)(w:World):Calls Tryz.prog 80 #[.agg (Yn kd pu t).toArray] w λe w'=>e=.returned (.pointer none)/\Zf w w':=by
 obtain⟨idx,id,cls,pos,st,z,q⟩:=t;simp only at h;rcases h with rfl|rfl|rfl
 ·go_enter Tryz.func80,Tryz.ntmps80
  go_wp2_with fail
  first|go_ret|go_ret2
  exact⟨rfl,(Fl _).alloc _⟩
 ·go_enter Tryz.func80,Tryz.ntmps80
  go_wp2_with fail
  first|go_ret|go_ret2
  exact⟨rfl,(Fl _).alloc _⟩
 ·go_enter Tryz.func80,Tryz.ntmps80
  go_wp2_with fail
  first|go_ret|go_ret2
  exact⟨rfl,(Fl _).alloc _⟩
theorem Zdr(d:Zg)(us:List GRec)(t:Y0)(i:Nat)(ac:t.id=i)(hc:t.cls=3)(hi:i<us.length)(kd H U:Nat)(pu:Option Addr)(w:World)(hD:Vd d us kd pu H U w) :
  Calls Tryz.prog 80 #[.agg (Yn kd pu t).toArray] w λe w'=>∃ v,e=.returned v/\Bc w' w.heap.size (some (us[i].tokens,us[i].yomi)) v/\Zf w w':=by
 have mixed:Tryz.prog.follows .mixedOrders=true:=Kr
 obtain⟨ku,n,C,oC,cC,ca,cb,A,B,rfl,al,K0,hA,hB,K,aj⟩:=Et hD t i ac hc hi;generalize us[i]=x at *;clear hD hi;obtain⟨idx,id,cls,pos,st,fi,sf⟩:=t;simp only at ac hc;subst ac hc;obtain⟨rb,aa⟩:∃ rb,rb=w.heap.size:=⟨_,rfl⟩;have X0:Zf w (w.alloc (Zu kd (some ⟨ku,0,none⟩) ⟨idx,i,3,pos,st,fi,sf⟩)):=(Fl _).alloc _;rw[<- aa]at K0;go_enter Tryz.func80,Tryz.ntmps80
 go_upto_region 1 with fail
 have H0:=Hd (Ai1 X0 (Ai1 (strs.ext hA X0) (strs.ext hB X0)));rw[<- aa];have X:Hid (∀ h,Zf w h->(rb<h.heap.size->True)):=λ_ _ _=>trivial
 have X:Hid (∀ h,Zf (w.alloc (Zu kd (some ⟨ku,0,none⟩) ⟨idx,i,3,pos,st,fi,sf⟩)) h->UsF x i ku rb n C oC cC ca cb A B h):=λh f=>K0.ext f
 clear hA hB aa X0 K0;generalize w.alloc _=W at *;have V:=Hd (Ai1 (Nt (Lc x.tokens) K.2.2.1) (Nt (Lc x.yomi) K.2.2.2));clear K;have ak:(i:Int)<(n:Int):=Om
 have am:(0:Int)<=(i:Int):=Om
 obtain⟨c1,c2,c3,c4,b1,b2,b8,lb,lk⟩:=X.out W (Fl _);have ab:∀ W:World,(Instr.makeSlice 34 (.int .i64 (x.tokens.length:Int)) (.int .i64 (x.tokens.length:Int))).run Tryz.prog W=.ok (.slice (some ⟨W.heap.size,0,none⟩) x.tokens.length x.tokens.length) (W.alloc (.cells (madeCells #[.string ⟨#[]⟩] x.tokens.length) 9)):=λW=>O9 x.tokens.length x.tokens.length (Nl _) (by have:=V.out;omega) W
 go_upto_region 3 with fail
 go_still_tail 11,Kr
 change wpList _ _ _ _ _ W.drew;go_wp2_with fail
 obtain⟨N,Y⟩:∃ N,N=W.heap.size:=⟨_,rfl⟩;rw[<- Y];have Z:Zf W (W.alloc (.cells (madeCells #[.string ⟨#[]⟩] x.tokens.length) 9)).drew:=((Fl W).alloc _).drew;have K2:(W.alloc (.cells (madeCells #[.string ⟨#[]⟩] x.tokens.length) 9)).drew.heap[N]?=some (.cells (madeCells #[.string ⟨#[]⟩] x.tokens.length) 9 (0,0)):=alloc_at' _ _ Y;have ag:w.heap.size<=N:=by rw[Y];exact H0.out.1.size
 have af:W.heap.size<=N:=Om
 clear Y ab c1 c2 c3 c4 b1 b2 b8 lb lk;obtain⟨c1,c2,c3,c4,b1,b2,b8,lb,lk⟩:=X.out _ Z;have q:=Hd (Ai1 Z K2);have HS:=Hd (strs.ext H0.out.2.1 Z);clear Z K2;generalize (W.alloc _).drew=W2 at *;go_upto_region 4 with fail
 go_still_tail 11,Kr
 change wpList _ _ _ _ _ W2.drew
 have J:(0:Nat)<((x.tokens.map Value.string)).length->some (⟨N,0,none⟩:Addr)=some ⟨N,0,none⟩/\∃ ad,A=some ad/\∀ j v,(x.tokens.map Value.string)[j]?=some v->W2.drew.cell? (ad.add j)=some v:=λh0=>by
  obtain⟨b,o,e,_,ae⟩:=Xh HS.out (λe=>by rw[e]at h0;simp at h0);exact⟨rfl,_,e,ae⟩
 refine wpList_copy_splice rfl _ _ 34 34 rfl 9 Tryz.underlying34 Kr (some ⟨N,0,none⟩) A x.tokens.length x.tokens.length x.tokens.length ca rfl rfl N 0 (madeCells #[.string ⟨#[]⟩] x.tokens.length).toList 9 q.out.2 (x.tokens.map Value.string) (by simp) J (by rw[List.length_map];simp[madeCells]) (by intro y hy;obtain⟨z,_,rfl⟩:=List.mem_map.1 hy;rfl) N W2.drew (Below.refl _ _) (Nl _) ?_;intro I h7 L;rw[O5 _ _ (by simp[madeCells])]at h7;rw[List.length_map];have G:Zf W I:=Fr.of_below ((Fr.below q.out.1).drew.trans (L.mono af));have E1:=Hd (strs.mono (O':=λj=>w.heap.size<=j) (λj _ hj=>Nt ag hj) (Sj h7.out rfl (λs hs=>Tf HS.out s hs) (by have:=V.out;omega)));have H1:=Hd (Ai1 (Z5 H0.out.1 G) (Ai1 (strs.ext H0.out.2.1 G) (strs.ext H0.out.2.2 G)));have X:Hid (∀ h,Zf I h->UsF x i ku rb n C oC cC ca cb A B h):=λh f=>X.out h (Z5 G f)
 have ao:=Hd G;clear q HS H0 J c1 c2 c3 c4 b1 b2 b8 lb lk L h7 G;obtain⟨c1,c2,c3,c4,b1,b2,b8,lb,lk⟩:=X.out I (Fl _);have ab:∀ W:World,(Instr.makeSlice 34 (.int .i64 (x.yomi.length:Int)) (.int .i64 (x.yomi.length:Int))).run Tryz.prog W=.ok (.slice (some ⟨W.heap.size,0,none⟩) x.yomi.length x.yomi.length) (W.alloc (.cells (madeCells #[.string ⟨#[]⟩] x.yomi.length) 9)):=λW=>O9 x.yomi.length x.yomi.length (Nl _) (by have:=V.out;omega) W
 go_upto_region 5 with fail
 go_still_tail 11,Kr
 change wpList _ _ _ _ _ I.drew;go_wp2_with fail
 obtain⟨M,Y⟩:∃ M,M=I.heap.size:=⟨_,rfl⟩;rw[<- Y];have Z:Zf I (I.alloc (.cells (madeCells #[.string ⟨#[]⟩] x.yomi.length) 9)).drew:=((Fl I).alloc _).drew;have K2:(I.alloc (.cells (madeCells #[.string ⟨#[]⟩] x.yomi.length) 9)).drew.heap[M]?=some (.cells (madeCells #[.string ⟨#[]⟩] x.yomi.length) 9 (0,0)):=alloc_at' _ _ Y;have ah:w.heap.size<=M:=by rw[Y];exact H1.out.1.size
 have af:I.heap.size<=M:=Om
 clear Y ab c1 c2 c3 c4 b1 b2 b8 lb lk;obtain⟨c1,c2,c3,c4,b1,b2,b8,lb,lk⟩:=X.out _ Z;have q:=Hd (Ai1 Z K2);have HS:=Hd (strs.ext H1.out.2.2 Z);clear Z K2;generalize (I.alloc _).drew=W5 at *;go_upto_region 6 with fail
 go_still_tail 11,Kr
 change wpList _ _ _ _ _ W5.drew
 have J:(0:Nat)<((x.yomi.map Value.string)).length->some (⟨M,0,none⟩:Addr)=some ⟨M,0,none⟩/\∃ ad,B=some ad/\∀ j v,(x.yomi.map Value.string)[j]?=some v->W5.drew.cell? (ad.add j)=some v:=λh0=>by
  obtain⟨b,o,e,_,ae⟩:=Xh HS.out (λe=>by rw[e]at h0;simp at h0);exact⟨rfl,_,e,ae⟩
 refine wpList_copy_splice rfl _ _ 34 34 rfl 9 Tryz.underlying34 Kr (some ⟨M,0,none⟩) B x.yomi.length x.yomi.length x.yomi.length cb rfl rfl M 0 (madeCells #[.string ⟨#[]⟩] x.yomi.length).toList 9 q.out.2 (x.yomi.map Value.string) (by simp) J (by rw[List.length_map];simp[madeCells]) (by intro y hy;obtain⟨z,_,rfl⟩:=List.mem_map.1 hy;rfl) M W5.drew (Below.refl _ _) (Nl _) ?_;intro W6 h7 L;rw[O5 _ _ (by simp[madeCells])]at h7;rw[List.length_map];have G:Zf I W6:=Fr.of_below ((Fr.below q.out.1).drew.trans (L.mono af));have E2:=Hd (strs.mono (O':=λj=>w.heap.size<=j) (λj _ hj=>Nt ah hj) (Sj h7.out rfl (λs hs=>Tf HS.out s hs) (by have:=V.out;omega)));have H2:=Hd (Ai1 (Z5 H1.out.1 G) (Ai1 (strs.ext H1.out.2.1 G) (strs.ext H1.out.2.2 G)));have X:Hid (∀ h,Zf W6 h->UsF x i ku rb n C oC cC ca cb A B h):=λh f=>X.out h (Z5 G f)
 have ai:=Hd G;clear q HS H1 J c1 c2 c3 c4 b1 b2 b8 lb lk L h7 G;obtain⟨c1,c2,c3,c4,b1,b2,b8,lb,lk⟩:=X.out W6 (Fl _);clear X V;go_upto_region 7 with fail
 go_wp2_with fail
 have X9:Zf w (W6.alloc (.cells #[.slice (some ⟨N,0,none⟩) x.tokens.length x.tokens.length,.slice (some ⟨M,0,none⟩) x.yomi.length x.yomi.length] 146)):=Z5 H2.out.1 ((Fl _).alloc _);have z0:=cell_of (alloc_at W6 (.cells #[.slice (some ⟨N,0,none⟩) x.tokens.length x.tokens.length,.slice (some ⟨M,0,none⟩) x.yomi.length x.yomi.length] 146)) 0 _ rfl;have z1:=cell_of (alloc_at W6 (.cells #[.slice (some ⟨N,0,none⟩) x.tokens.length x.tokens.length,.slice (some ⟨M,0,none⟩) x.yomi.length x.yomi.length] 146)) 1 _ rfl;first|go_ret|go_ret2
 exact⟨_,rfl,⟨_,_,_,rfl,z0,z1,H2.out.1.size,strs.ext E1.out (Z5 ai.out ((Fl _).alloc _)),strs.ext E2.out ((Fl _).alloc _)⟩,X9⟩
theorem Zhe{d:Zg}{us:List GRec}{t:Y0}{kd H U:Nat}{pu:Option Addr}{w:World}(q:Uh d us t)(z:Vd d us kd pu H U w) :
  Calls Tryz.prog 80 #[.agg (Yn kd pu t).toArray] w λe w'=>∃ v,e=.returned v/\Bc w' w.heap.size (Px us t) v/\Zf w w':=by
 unfold Px;rcases q.cases with e|⟨i,e,_⟩|⟨i,e,_⟩|⟨i,e,h1,h2,h3⟩
 ·rw[if_neg Om];exact (Nh t (.inl e) kd pu w).mono λ_ _ h=>⟨_,h.1,rfl,h.2⟩
 ·rw[if_neg Om];exact (Nh t (.inr (.inl e)) kd pu w).mono λ_ _ h=>⟨_,h.1,rfl,h.2⟩
 ·rw[if_neg Om];exact (Nh t (.inr (.inr e)) kd pu w).mono λ_ _ h=>⟨_,h.1,rfl,h.2⟩
 ·rw[if_pos e,h3];exact Zdr d us t i h1 e h2 kd H U pu w z
end
end Go.Proofs.YtlfoalomaofejaaGreatDoor
