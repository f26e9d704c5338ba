/- Build's dictionaries in plain  -/
import Derived.Test.YtlfoalomaofejaaGreatDoorM21
import Derived.Test.YtlfoalomaofejaaGreatDoorM23
set_option linter.all false
set_option maxRecDepth 100000
namespace Go.Proofs.YtlfoalomaofejaaGreatDoor
section
open Go.RowKit DT SS TR LT
def Zgy(u:GWord):Wj:=⟨u.left,u.right,u.weight⟩
def Jc(u:GUnk):Wj:=⟨u.left,u.right,u.weight⟩
def Z3(d:Zg)(uk:Option (List ByteArray)):Dk where
 known:=(Zw d).map Zgy
 unk:=(Ze d).map Jc
 find:=told ((Zw d).map GWord.surface)
 user:=uk.map told
 cat r:=(Td d.chars (if r<65536 then r else 0)).toNat
 invoke c:=(d.classes.getD c ⟨.empty,false,false⟩).invoke
 group c:=(d.classes.getD c ⟨.empty,false,false⟩).group
 idx c:=(numOf (look (V1 (Ze d)).1 (c:Int))).toNat
 dup c:=(numOf (look (V1 (Ze d)).2 (c:Int))).toNat
 conn r l:=d.costs.getD (d.rows*l+r).toNat 0
def Ug(q:Nat)(ks:List ByteArray)(H U:Nat)(w:World):Prop :=
 ∃ g n h,w.cell? ⟨q,0,none⟩=some (.slice (some ⟨g,0,none⟩) n n)/\w.cell? ⟨q,1,none⟩=some (.map (some h))/\Tb w g n h ks/\(H<=q/\q<U)/\(H<=g/\g<U)/\(H<=h/\h<U)
theorem Ug.keep{G H U:Nat}{ks:List ByteArray}{S:Nat->Prop}{w w':World}(h:Ug G ks H U w)(f:Fr S w w')(q:∀ b,H<=b->b<U->¬ S b):Ug G ks H U w':=by
 obtain⟨g,n,I,h1,h2,h3,h4,A,z⟩:=h;exact⟨g,n,I,f.cell h1 (q _ h4.1 h4.2),f.cell h2 (q _ h4.1 h4.2),h3.keep f (q _ A.1 A.2) (q _ z.1 z.2),h4,A,z⟩
structure Y6(ws:List ByteArray):Prop where
 asc:Asc ws
 plain:∀ x∈ws,Wz x=true
 len:ws.length<=1000
theorem Oa{d:Zg}(z:Zl d=true)(hd:Hr d):Y6 ((Zw d).map GWord.surface):=by
 refine⟨Ov d.words,λx h=>?_,?_⟩
 ·obtain⟨u,q,rfl⟩:=List.mem_map.1 h;exact (Tj z u ((Z0 _ _).mem_iff.1 q)).2.2.2
 ·rw[List.length_map,Bp];exact hd.words
theorem Mr{α β:Type}(f:α->List β)(m:Nat):∀ l:List α,(∀ x∈l,(f x).length<=m)->(l.flatMap f).length<=l.length*m
 | [],_=>by simp
 | x::l,h=>by
  have h1:=h x (by simp);have h2:=Mr f m l (λy q=>h y (by simp[q]));rw[List.flatMap_cons,List.length_append,List.length_cons,Nat.add_mul];omega
theorem Ns{ws:List ByteArray}(h:Y6 ws)(s:ByteArray):(told ws s).length<=s.size*1000:=by
 rw[Zei (Rh _ _ rfl h.asc) (λx q=>(Xa (h.plain x q)).1)];unfold Ij;refine Nt (Mr _ 1000 _ (λj _=>?_)) (by simp);rw[List.length_map];have:=h.len;unfold Iz;refine Nt (List.length_filter_le _ _) (by simpa using this)
theorem Pf{ws:List ByteArray}(I:Y6 ws){s:ByteArray}{x:Nat×Nat}(q:x∈told ws s):∃ h:x.1<ws.length,ws[x.1].size=x.2/\ws[x.1].data.toList <+: s.data.toList:=by
 rw[Zei (Rh _ _ rfl I.asc) (λx q=>(Xa (I.plain x q)).1)]at q;obtain⟨j,K,q⟩:=List.mem_flatMap.1 q;obtain⟨i,hi,rfl⟩:=List.mem_map.1 q;obtain⟨G,A⟩:=List.mem_filter.1 hi;have z:i<ws.length:=List.mem_range.1 G;have J:j<s.size:=List.mem_range.1 K
 have e:ws[i]=s.extract 0 (j+1):=by
  have:=of_decide_eq_true A;rwa[Ge z,Option.getD_some]at this
 refine⟨z,?_,?_⟩
 ·rw[e,ByteArray.size_extract];omega
 ·rw[e,extract_toList];exact List.take_prefix _ _
theorem Zle{d:Zg}{s:ByteArray}{ws:List ByteArray}(h:Y6 ws)(I:Rd s)(k:Nat)(J:k<=(Zd s).length)(cls:Nat)(z:Nat->Wj)(q:∀ i,i<ws.length->M1 d cls i (z i)) :
  Hl d s k (bp (Zd s) k) cls (Lib.runeCount s+2) z (told ws (s.extract (bp (Zd s) k) s.size)):=by
 intro x G;obtain⟨hi,h1,h2⟩:=Pf h G;have hp:=Xa (h.plain _ (List.getElem_mem hi));obtain⟨A,a2,a3⟩:=Js I k J hp.2.2 h2;rw[h1]at A a3;refine⟨q _ hi,by rw[A];exact My s _,?_,by have:=h.len;omega⟩;rw[a3,UC.count_chunk,Tz];omega
theorem Fj{d:Zg}(i:Nat)(hi:i<((Zw d).map GWord.surface).length):M1 d 1 i (((Zw d).map Zgy).getD i default):=by
 rw[List.length_map]at hi;exact .inr (.inl ⟨rfl,hi,by rw[List.getD_eq_getElem?_getD,List.getElem?_map,Ge hi];rfl⟩)
theorem Ev{d:Zg}(i:Nat)(hi:i<(Ze d).length):M1 d 2 i (((Ze d).map Jc).getD i default) :=
 .inr (.inr ⟨rfl,hi,by rw[List.getD_eq_getElem?_getD,List.getElem?_map,Ge hi];rfl⟩)
theorem Bs(d:Zg)(ks:List ByteArray)(s:ByteArray)(k pos:Nat):Z7 s k pos 3 (λ_=>zeroM) (told ks (s.extract pos s.size))=Us (Z3 d (some ks)) s k pos:=rfl
theorem Fi(d:Zg)(uk:Option (List ByteArray))(s:ByteArray)(k pos:Nat):Z7 s k pos 1 (λi=>((Zw d).map Zgy).getD i default) (told ((Zw d).map GWord.surface) (s.extract pos s.size))=Vl (Z3 d uk) s k pos:=rfl
end
section
open Go.RowKit DT SS TR LT
theorem Zz.up{d:Zg}{kd H U V:Nat}{w:World}(h:Zz d kd H U w)(h1:U<=V)(h2:V<=w.heap.size):Zz d kd H V w:=by
 obtain⟨X,cc,W,gl,g,n,mb,ko,Y,Z,M,G,v0,J,v4,I,z,v12,q,L,K,_,Fs,a,b,c⟩:=h;exact⟨X,cc,W,gl,g,n,mb,ko,Y,Z,M,G,v0,J,v4,I,z,v12,q,L,K,h2,Fs,a,b,λi hi x A=>⟨(c i hi x A).1,Nat.lt_of_lt_of_le (c i hi x A).2 h1⟩⟩
theorem Ug.up{q H U V:Nat}{ks:List ByteArray}{w:World}(h:Ug q ks H U w)(h1:U<=V):Ug q ks H V w:=by
 obtain⟨g,n,z,G,a2,a3,a4,a5,A⟩:=h;exact⟨g,n,z,G,a2,a3,⟨a4.1,Om⟩,⟨a5.1,Om⟩,⟨A.1,Om⟩⟩
def Ts(U:Nat):Prop:=1<U/\2<U
structure BX(uk:Option (Nat×List ByteArray))(H U kl br it:Nat)(s:ByteArray)(p:Nat)(kk:Int)(w:World):Prop where
 usr:w.cell? ⟨kl,4,none⟩=some (.pointer (uk.map λx=>⟨x.1,0,none⟩))
 user:∀ x,uk=some x->Ug x.1 x.2 H U w
 u8:U8 w
 itr:w.heap[it]?=some (.stringIter s p)
 hbr:w.heap[br]?=some (.cells #[.int .i64 kk] 3 (0,0))
theorem BX.keep{uk:Option (Nat×List ByteArray)}{H U kl br it:Nat}{s:ByteArray}{p:Nat}{z:Int}{w w':World}{S:Nat->Prop}(h:BX uk H U kl br it s p z w)(A:Ts U)(f:Fr S w w')(q:∀ j,S j->U<=j/\j≠kl/\j≠br/\j≠it):BX uk H U kl br it s p z w' :=
 ⟨f.cell h.usr (λe=>(q _ e).2.1 rfl),λx e=>(h.user x e).keep f (λb _ G e=>by have:=(q _ e).1;omega),h.u8.fr f (λe=>by have:=(q _ e).1;have:=A.1;omega) (λe=>by have:=(q _ e).1;have:=A.2;omega),
  f.heap h.itr (λe=>(q _ e).2.2.2 rfl),f.heap h.hbr (λe=>(q _ e).2.2.1 rfl)⟩
structure BM(d:Zg)(uk:Option (Nat×List ByteArray))(kd H U kl g R c bl br bq bi ba it:Nat)(s:ByteArray)(k pos p:Nat)(ns:List Nd)(any:Bool)(w:World):Prop where
 fix:Zcf d kd H U kl g R c bl br bq bi s k pos w
 x:BX uk H U kl br it s p k w
 an:w.cell? ⟨ba,0,none⟩=some (.bool any)/\w.frozen? ⟨ba,0,none⟩=false
 lat:∃ O,K9 U kl bl br bq bi g R ns O w/\¬ O ba/\¬ O it
 ba:Jg U kl bl br bq bi ba/\ba≠it
section
variable{d:Zg}{uk:Option (Nat×List ByteArray)}{kd H U kl g R c bl br bq bi ba it:Nat}{s:ByteArray}{k pos p:Nat}{ns:List Nd}{any:Bool}{w w':World}
theorem BM.itlt(h:BM d uk kd H U kl g R c bl br bq bi ba it s k pos p ns any w):it<w.heap.size:=(Gs1.1 h.x.itr).1
theorem BM.balt(h:BM d uk kd H U kl g R c bl br bq bi ba it s k pos p ns any w):ba<w.heap.size:=lt_of_cell h.an.1
theorem BM.ext(h:BM d uk kd H U kl g R c bl br bq bi ba it s k pos p ns any w)(A:Ts U)(f:Zf w w'):BM d uk kd H U kl g R c bl br bq bi ba it s k pos p ns any w':=by
 obtain⟨O,z,q⟩:=h.lat;exact⟨h.fix.keep f (λj e=>e.elim),h.x.keep A f (λj e=>e.elim),⟨f.cell h.an.1 id,(f.frozen h.an.1 id).trans h.an.2⟩,⟨O,z.ext f,q⟩,h.ba⟩
theorem BM.told{O:Nat->Prop}{cls:Nat}{G:Nat->Wj}{L:List (Nat×Nat)}(h:BM d uk kd H U kl g R c bl br bq bi ba it s k pos p ns any w)(Z:Ts U)(z:¬ O it)(A:∀ j,O j->Jg U kl bl br bq bi j)
  {O':Nat->Prop} (Y:CbJ d kd H U kl g R c bl br bq bi ba s k pos cls G ns L O' L.length w') (X:∀ b,O' b->O b\/w.heap.size<=b) (W:Fr O w w') :
  BM d uk kd H U kl g R c bl br bq bi ba it s k pos p (ns++Z7 s k pos cls G L) (decide (0<L.length)) w':=by
 obtain⟨V,M,O1,I,K,J⟩:=Y;rw[List.take_length]at I;refine⟨V,h.x.keep Z W (λj e=>?_),M,⟨O1,I,K,λe=>?_⟩,h.ba⟩
 ·have:=A j e;exact⟨this.1,this.2.1,this.2.2.2.1,λq=>z (q▸e)⟩
 ·rcases X it ((J it).2 (.inl e)) with q|q
  ·exact z q
  ·have:=h.itlt;omega
theorem Fx(X cls:Nat)(q:Nat->Wj)(gx Z mb:Nat)(ws:List ByteArray)(A:∀ args w,(callFunc X args).run Tryz.prog w=.ok (.enter X args) w)(K:Y6 ws)(hs:Rd s)(af:s.size<=300)(hk:k<=(Zd s).length)(M:pos=bp (Zd s) k)(hR:R=Lib.runeCount s+2)(ag:ns.length<=900000000)(hG:Ts U)
  (ab:∀ i,i<ws.length->M1 d cls i (q i)) (ac:∀ (L:List (Nat×Nat)),Hl d s k pos cls R q L->ns.length+L.length<=1000000000->∀ (O:Nat->Prop) (m:Nat) (hm:m<L.length) (w:World),CbJ d kd H U kl g R c bl br bq bi ba s k pos cls q ns L O m w ->
   Calls Tryz.prog X #[.int .i64 (L[m].1:Int),.int .i64 (L[m].2:Int),.pointer (some ⟨bl,0,none⟩),.pointer (some ⟨br,0,none⟩),.pointer (some ⟨bq,0,none⟩),.pointer (some ⟨bi,0,none⟩),.pointer (some ⟨ba,0,none⟩)] w λe w'=>e=.returned (.tuple #[])/\∃ O',CbJ d kd H U kl g R c bl br bq bi ba s k pos cls q ns L O' (m+1) w'/\(∀ b,O' b->O b\/w.heap.size<=b)/\Fr O w w')
  (h:BM d uk kd H U kl g R c bl br bq bi ba it s k pos p ns false w) (V:Tb w gx Z mb ws) (ah:gx<U/\mb<U) :
  Calls Tryz.prog 191 #[.agg #[.slice (some ⟨gx,0,none⟩) Z Z,.map (some mb)],.string (s.extract pos s.size),.func (.func X) #[] #[.pointer (some ⟨bl,0,none⟩),.pointer (some ⟨br,0,none⟩),.pointer (some ⟨bq,0,none⟩),.pointer (some ⟨bi,0,none⟩),.pointer (some ⟨ba,0,none⟩)]] w λe w'=>e=.returned (.tuple #[]) /\
   BM d uk kd H U kl g R c bl br bq bi ba it s k pos p (ns++Z7 s k pos cls q (told ws (s.extract pos s.size))) (decide (0<(told ws (s.extract pos s.size)).length)) w'/\Fr (λj=>U<=j) w w':=by
 obtain⟨Y,l1,l2,l3⟩:=h.lat
 have hL:Hl d s k pos cls R q (told ws (s.extract pos s.size)):=by
  subst M hR;exact Zle K hs k hk cls q ab
 have ae:(told ws (s.extract pos s.size)).length<=300000:=by
  have h1:=Ns K (s.extract pos s.size);have h2:(s.extract pos s.size).size<=300:=by rw[ByteArray.size_extract];omega
  omega
 have z:CbJ d kd H U kl g R c bl br bq bi ba s k pos cls q ns (told ws (s.extract pos s.size)) (λj=>Y j\/j=ba) 0 w :=
  ⟨h.fix,h.an,Y,by simpa [Z7] using l1,l2,λj=>Iff.rfl⟩
 have G:∀ j,(Y j\/j=ba)->Jg U kl bl br bq bi j:=by
  rintro j (e|rfl)
  ·obtain⟨vs,nb,_,q2,q3,_⟩:=l1;exact q2 j ((q3 j).1 e)
  ·exact h.ba.1
 have W:¬ (Y it\/it=ba):=by
  rintro (e|e)
  ·exact l3 e
  ·exact h.ba.2 e.symm
 have ad:0<R:=Om
 have I:=Zj8 gx Z mb X #[.pointer (some ⟨bl,0,none⟩),.pointer (some ⟨br,0,none⟩),.pointer (some ⟨bq,0,none⟩),.pointer (some ⟨bi,0,none⟩),.pointer (some ⟨ba,0,none⟩)] ws (s.extract pos s.size) (λO m w=>CbJ d kd H U kl g R c bl br bq bi ba s k pos cls q ns (told ws (s.extract pos s.size)) O m w)
  ⟨A,λO m w w' hj J=>?_,λO m hm w hj=>ac _ hL Om O m hm w hj⟩ (λj=>Y j\/j=ba) w z V (λb hb=>?_) ⟨λe=>?_,λe=>?_⟩ (Rh _ _ rfl K.asc) (by have:=K.len;omega) (λx J=>(Xa (K.plain x J)).1) (by rw[ByteArray.size_extract];omega)
 ·refine I.mono ?_;rintro e w' ⟨rfl,O',hJ,hO,hf⟩;exact⟨rfl,h.told hG W G hJ hO hf,hf.mono (λj _ e=>(G j e).1)⟩
 ·obtain⟨j1,⟨j2,aa⟩,O1,j3,j4⟩:=hj;exact⟨j1.keep J (λ_ e=>e.elim),⟨J.cell j2 id,(J.frozen j2 id).trans aa⟩,O1,j3.ext J,j4⟩
 ·rcases hb with e|rfl
  ·obtain⟨vs,nb,q1,q2,q3,_⟩:=l1;exact q1.lt ad b ((q3 b).1 e)
  ·exact h.balt
 ·have:=(G _ e).1;omega
 ·have:=(G _ e).1;omega
theorem BM.node(X:Zl d=true)(h:BM d uk kd H U kl g R c bl br bq bi ba it s k pos p ns any w)(hG:Ts U)(hR:R<=1000000)(Z:ns.length<=900000000)(m:Wj)(id l:Nat)(hm:M1 d 2 id m)(aa:pos+l<=s.size)(W:s.size<=300)(hf:k+Lib.runeCount (s.extract pos (pos+l))<R)(hk:k<=1000000) :
  Calls Tryz.prog 190 #[.pointer (some ⟨kl,0,none⟩),.int .i64 k,.int .i64 (id:Int),.int .i64 pos,.int .i64 k,.int .i64 2,.string (s.extract pos (pos+l))] w λe w'=>e=.returned (.tuple #[])/\BM d uk kd H U kl g R c bl br bq bi ba it s k pos p (ns++[Xq s k pos 2 m id l]) any w'/\Fr (λj=>U<=j) w w':=by
 obtain⟨O,⟨J,L,h1,h2,h3,h4⟩,V,M⟩:=h.lat;refine (Uy kl g R c J ns L (Xq s k pos 2 m id l) k w h.fix.list hR h1 (λe=>(h2 _ e).2.1 rfl) Om (Ir X h.fix.dict h.fix.dic hm) (by show (s.extract pos (pos+l)).size<=1000000;rw[ByteArray.size_extract];omega) rfl hf ⟨by show pos<=1000000;omega,hk⟩).mono ?_;rintro e w' ⟨rfl,G,K,a1,a2,a3,a4,a5⟩;have ac:=h.balt;have ab:=h.itlt;have A:¬ Yz g R J ba:=λe=>V ((h3 _).2 e)
 have I:¬ Yz g R J it:=λe=>M ((h3 _).2 e)
 refine⟨rfl,⟨h.fix.keep a2 h2,h.x.keep hG a2 (λj e=>⟨(h2 j e).1,(h2 j e).2.1,(h2 j e).2.2.2.1,λq=>I (q▸e)⟩),⟨a2.cell h.an.1 A,(a2.frozen h.an.1 A).trans h.an.2⟩,⟨Yz g R G,⟨G,K,a1,λj e=>(a3 j e).elim (h2 j) h.fix.new,λj=>Iff.rfl,λq Y=>(by
  rw[List.length_append,List.length_singleton]at Y;rcases Nat.lt_or_ge q ns.length with z|z
  ·rw[a4 q z];exact h4 q z
  ·have ez:q=ns.length:=Om;rw[ez];have:=h.fix.dict.lt
   omega)⟩,λe=>(a3 _ e).elim A Om,λe=>(a3 _ e).elim I Om⟩,h.ba⟩,a2.mono (λj _ e=>(h2 j e).1)⟩
end
theorem Sw{w:World}{b o it p:Nat}{s:ByteArray}{v:Value}(h:w.cell? ⟨b,o,none⟩=some v)(hi:w.heap[it]?=some (.stringIter s p)):b≠it:=by
 intro e;subst e;simp[World.cell?,hi]at h
structure BH(d:Zg)(uk:Option (Nat×List ByteArray))(kd H U kl g R bl br bi it:Nat)(s:ByteArray)(ns:List Nd)(k p:Nat)(w:World):Prop where
 la:w.cell? ⟨bl,0,none⟩=some (.pointer (some ⟨kl,0,none⟩))
 inp:w.cell? ⟨bi,0,none⟩=some (.string s)
 list:w.cell? ⟨kl,2,none⟩=some (.slice (some ⟨g,0,none⟩) R R)
 dic:w.cell? ⟨kl,3,none⟩=some (.pointer (some ⟨kd,0,none⟩))
 dict:Zz d kd H U w
 x:BX uk H U kl br it s p ((k:Int)-1) w
 lat:∃ vs nb,Yp w g R vs ns nb (λ_=>0) (λ_=>none)/\(∀ j,Yz g R vs j->U<=j/\j≠kl/\j≠bl/\j≠br/\j≠bi/\j≠it)/\∀ m,m<ns.length->U<=nb m
 ne:(U<=br/\U<=it)/\br≠kl/\br≠bl/\br≠bi
section
variable{d:Zg}{uk:Option (Nat×List ByteArray)}{kd H U kl g R bl br bi it:Nat}{s:ByteArray}{k p:Nat}{ns:List Nd}{w w':World}
theorem BH.rp(h:BH d uk kd H U kl g R bl br bi it s ns k p w):w.cell? ⟨br,0,none⟩=some (.int .i64 ((k:Int)-1))/\w.frozen? ⟨br,0,none⟩=false:=⟨Zb h.x.hbr 0 _ rfl,Zi h.x.hbr 0⟩
theorem BH.begin(h:BH d uk kd H U kl g R bl br bi it s ns k p w)(Z:Ts U)(X pos:Nat){W:World}(z:Fr (λj=>j=it\/j=br) w W)(hi:W.heap[it]?=some (.stringIter s X))(V:W.heap[br]?=some (.cells #[.int .i64 k] 3 (0,0))){bq ba:Nat}(hq:W.cell? ⟨bq,0,none⟩=some (.int .i64 pos))(ha:W.cell? ⟨ba,0,none⟩=some (.bool false)/\W.frozen? ⟨ba,0,none⟩=false)(hn:w.heap.size<=bq/\w.heap.size<=ba/\bq≠ba)(hR:0<R) :
  BM d uk kd H U kl g R R bl br bq bi ba it s k pos X ns false W:=by
 obtain⟨G,J,h1,h2,h4⟩:=h.lat;have i0:=h.x.itr;have l1:=lt_of_cell h.la;have l2:=lt_of_cell h.inp;have l3:=lt_of_cell h.list;have l4:=lt_of_cell h.rp.1;have l5:it<w.heap.size:=(Gs1.1 i0).1;have l6:=h.dict.lt;simp only at l1 l2 l3 l4;obtain⟨⟨n1,n2⟩,n3,n4,n5⟩:=h.ne;have c1:bl≠it:=Sw h.la i0;have c2:bi≠it:=Sw h.inp i0;have c3:kl≠it:=Sw h.list i0;have Y:∀ b,H<=b->b<U->¬ (b=it\/b=br):=λb _ V e=>by omega
 have M:Jg U kl bl br bq bi ba:=⟨Om,Om,Om,Om,Om,Om⟩;have aa:br≠it:=Sw h.rp.1 i0;have A:∀ j,Yz g R G j->j<w.heap.size:=h1.lt hR;have K:∀ j,Yz g R G j->¬ (j=it\/j=br):=λj I e=>by have:=h2 j I;omega
 have L:∀ m,m<ns.length->¬ (J m=it\/J m=br):=λm hm e=>by
  have q:=h1.node m hm;rcases e with e|e
  ·rw[e,i0]at q;cases q
  ·rw[e,h.x.hbr]at q;simp only[Option.some.injEq,Obj.cells.injEq,Xm]at q;have:=congrArg Array.size q.1;simp at this
 refine⟨⟨z.cell h.la (by rintro (e|e)<;>simp only at e<;>omega),Zb V 0 _ rfl,hq,z.cell h.inp (by rintro (e|e)<;>simp only at e<;>omega),z.cell h.list (by rintro (e|e)<;>simp only at e<;>omega),z.cell h.dic (by rintro (e|e)<;>simp only at e<;>omega),h.dict.keep z Y⟩,
  ⟨z.cell h.x.usr (by rintro (e|e)<;>simp only at e<;>omega),λx e=>(h.x.user x e).keep z Y,h.x.u8.fr z (λe=>by have:=Z.1;omega) (λe=>by have:=Z.2;omega),hi,V⟩,ha,
  ⟨Yz g R G,⟨G,J,h1.keep z K L,λj I=>?_,λj=>Iff.rfl,h4⟩,λe=>?_,λe=>?_⟩,M,Om⟩
 ·have:=h2 j I;have:=A j I;exact⟨Om,Om,Om,Om,Om,Om⟩
 ·have:=A _ e;omega
 ·exact (h2 _ e).2.2.2.2.2 rfl
theorem BM.done{bq ba pos:Nat}{any:Bool}(h:BM d uk kd H U kl g R R bl br bq bi ba it s k pos p ns any w)(q:(U<=br/\U<=it)/\br≠kl/\br≠bl/\br≠bi):BH d uk kd H U kl g R bl br bi it s ns (k+1) p w:=by
 obtain⟨O,⟨L,M,h1,h2,h3,h4⟩,W,V⟩:=h.lat;obtain⟨K,J,I,G,A⟩:=h.x;refine⟨h.fix.la,h.fix.inp,h.fix.list,h.fix.dic,h.fix.dict,⟨K,J,I,G,?_⟩,⟨L,M,h1,λj z=>?_,h4⟩,q⟩
 ·rw[(Om:((k+1:Nat):Int)-1=(k:Int))];exact A
 ·have:=h2 j z;exact⟨this.1,this.2.1,this.2.2.1,this.2.2.2.1,this.2.2.2.2.2,λe=>V ((h3 _).2 (e▸z))⟩
end
end
section
open Go.RowKit DT SS TR LT
theorem Zb2{d:Zg}(z:Zl d=true)(r:Nat):0<=Td d.chars r/\Td d.chars r<d.classes.length:=by
 have hd:=Vb z;have h:=Kf z
 have:∀ (l:List Qv) (a:Int),(∀ c∈l,0<=c.cls/\c.cls<d.classes.length)->(0<=a/\a<d.classes.length)->0<=l.foldl (λa c=>if c.lo<=(r:Int)/\(r:Int)<=c.hi then c.cls else a) a/\l.foldl (λa c=>if c.lo<=(r:Int)/\(r:Int)<=c.hi then c.cls else a) a<d.classes.length:=by
  intro l
  induction l with
  | nil=>intro a _ q;exact q
  | cons c l ih =>
   intro a hl q;rw[List.foldl_cons];refine ih _ (λx A=>hl x (by simp[A])) ?_
   split
   ·exact hl c (by simp)
   ·exact q
 exact this d.chars 0 (λc G=>(h c G).2.2) ⟨Om,Om⟩
theorem Zmu{d:Zg}(h:Zl d=true)(r:Nat):((Td d.chars r).toNat:Int)=Td d.chars r:=by
 have:=Zb2 h r;omega
theorem Hi{d:Zg}(h:Zl d=true)(uk:Option (List ByteArray))(r:Nat):(Z3 d uk).cat r<d.classes.length:=by
 have:=Zb2 h (if r<65536 then r else 0);show (Td d.chars (if r<65536 then r else 0)).toNat<_;omega
theorem Za5(us:List GUnk):∀ (k:Nat),k<=us.length->∀ c:Int,(look (Zs us k).1 c=none/\look (Zs us k).2 c=none/\∀ j (h:j<us.length),j<k->us[j].cls≠c)\/∃ i m:Nat,look (Zs us k).1 c=some (.int .i32 i)/\(look (Zs us k).2 c).getD (.int .i32 0)=.int .i32 (m:Int)/\numOf (look (Zs us k).2 c)=(m:Int)/\i+m<k
 | 0,_,c=>.inl ⟨rfl,rfl,λj _ h=>Om⟩
 | k+1,hk,c=>by
  have G:=Za5 us k Om;have K:us.getD k default=us[k]' Om:=by rw[List.getD_eq_getElem?_getD,Ge Om];rfl
  show (look (Xe (Zs us k) k (us.getD k default)).1 c=none/\look (Xe (Zs us k) k (us.getD k default)).2 c=none/\_)\/∃ i m:Nat,look (Xe (Zs us k) k (us.getD k default)).1 c=some (.int .i32 i)/\(look (Xe (Zs us k) k (us.getD k default)).2 c).getD (.int .i32 0)=.int .i32 (m:Int)/\numOf (look (Xe (Zs us k) k (us.getD k default)).2 c)=(m:Int)/\i+m<k+1;rw[K];by_cases e:us[k].cls=c
  ·subst e;rcases G us[k].cls with ⟨h1,h2,h3⟩|⟨i,m,h1,h2,h3,h4⟩
   ·right;refine⟨k,0,?_,?_,?_,Om⟩<;>unfold Xe<;>rw[h1]<;>simp only
    ·rw[Wn,if_pos rfl]
    ·rw[h2];rfl
    ·rw[h2];rfl
   ·right;refine⟨i,m+1,?_,?_,?_,Om⟩<;>unfold Xe<;>rw[h1]<;>simp only
    ·exact h1
    ·rw[Wn,if_pos rfl,h3];rfl
    ·rw[Wn,if_pos rfl,h3];rfl
  ·have A:look (Xe (Zs us k) k us[k]).1 c=look (Zs us k).1 c:=by
    unfold Xe
    split
    ·rfl
    ·simp only[Wn];rw[if_neg e]
   have z:look (Xe (Zs us k) k us[k]).2 c=look (Zs us k).2 c:=by
    unfold Xe
    split
    ·simp only[Wn];rw[if_neg e]
    ·rfl
   rw[A,z];rcases G c with ⟨h1,h2,h3⟩|⟨i,m,h1,h2,h3,h4⟩
   ·refine .inl ⟨h1,h2,λj J I q=>?_⟩;rcases Nat.lt_or_ge j k with a|a
    ·exact h3 j J a q
    ·have:j=k:=Om;subst this;exact e q
   ·exact .inr ⟨i,m,h1,h2,h3,Om⟩
theorem Me{d:Zg}(G:Zl d=true)(uk:Option (List ByteArray))(c:Nat)(K:c<d.classes.length) :
  (look (V1 (Ze d)).1 (c:Int)).getD (.int .i32 0)=.int .i32 ((Z3 d uk).idx c:Int)/\(look (V1 (Ze d)).2 (c:Int)).getD (.int .i32 0)=.int .i32 ((Z3 d uk).dup c:Int)/\(Z3 d uk).idx c+(Z3 d uk).dup c<(Ze d).length:=by
 have q:∃ u∈d.unknown,u.cls=(c:Int):=by
  unfold Zl at G;simp only[Bool.and_eq_true,List.all_eq_true]at G;have:=G.2.2.2.2.2.2 c (List.mem_range.2 K);obtain⟨u,A,h⟩:=List.any_eq_true.1 this;exact⟨u,A,by simpa using h⟩
 obtain⟨u,A,z⟩:=q;have J:u∈Ze d:=(Z0 _ _).mem_iff.2 A;obtain⟨j,I,rfl⟩:=List.getElem_of_mem J;rcases Za5 (Ze d) (Ze d).length (Nl _) (c:Int) with ⟨_,_,h3⟩|⟨i,m,h1,h2,h3,h4⟩
 ·exact absurd z (h3 j I I)
 ·have M:(Z3 d uk).idx c=i:=by
   show (numOf (look (V1 (Ze d)).1 (c:Int))).toNat=i;unfold V1;rw[h1];rfl
  have L:(Z3 d uk).dup c=m:=by
   show (numOf (look (V1 (Ze d)).2 (c:Int))).toNat=m;unfold V1;rw[h3];rfl
  rw[M,L];refine⟨by unfold V1;rw[h1];rfl,h2,h4⟩
theorem Od(cat:Nat->Nat)(c:Nat):∀ (n:Nat) (l:List (List UInt8)),Vf cat c n l<=l.length
 | 0,_=>by simp[Vf]
 | _+1,[]=>by simp[Vf]
 | n+1,x::l=>by
  unfold Vf
  split
  ·have:=Od cat c n l;simp;omega
  ·simp
theorem Zjt(cat:Nat->Nat)(c:Nat)(n:Nat)(h:List (List UInt8))(j:Nat)(q:j<h.length):Vf cat c (n+1) (h.drop j)=if cat (Xi h[j])=c then 1+Vf cat c n (h.drop (j+1)) else 0:=by
 rw[List.drop_eq_getElem_cons q];rfl
theorem Zmf(cat:Nat->Nat)(c:Nat)(n:Nat)(h:List (List UInt8))(j:Nat)(q:h.length<=j):Vf cat c n (h.drop j)=0:=by
 rw[List.drop_eq_nil_of_le q];cases n<;>rfl
theorem Zm8{s:ByteArray}(q:Rd s){a b:Nat}(h:a<b)(z:b<=(Zd s).length):bp (Zd s) a<bp (Zd s) b:=by
 have h1:=Mw (Zd s) a Om;have h2:=Mx (Zd s) ((Om:a+1<=b));have h3:=List.length_pos_iff.2 (q _ (List.getElem_mem ((Om:a<(Zd s).length)))).1.1;omega
theorem Zay{d:Zg}(q:Zl d=true)(hd:Hr d)(uk:Option (List ByteArray))(I:∀ ks,uk=some ks->Y6 ks)(s:ByteArray)(L:s.size<=300)(k:Nat)(M:k<(Zd s).length):(Xu (Z3 d uk) s (Zd s) k).length<=400000:=by
 have z:∀ p,(s.extract p s.size).size<=300:=λp=>by rw[ByteArray.size_extract];omega
 have G:∀ p,(Us (Z3 d uk) s k p).length<=300000:=λp=>by
  unfold Us
  cases h:(Z3 d uk).user with
  | none=>simp
  | some f =>
   simp only[List.length_map]
   cases uk with
   | none=>cases h
   | some ks =>
    have e:f=told ks:=by
     have:some (told ks)=some f:=h;injection this with this
     exact this.symm
    rw[e];have:=Ns (I ks rfl) (s.extract p s.size);have:=z p;omega
 have A:∀ p,(Vl (Z3 d uk) s k p).length<=300000:=λp=>by
  unfold Vl;rw[List.length_map];have h1:(told ((Zw d).map GWord.surface) (s.extract p s.size)).length<=_:=Ns (Oa q hd) (s.extract p s.size);have:=z p;show (told ((Zw d).map GWord.surface) (s.extract p s.size)).length<=_;omega
 have K:(Oy (Z3 d uk) s (Zd s) k).length<=2002:=by
  unfold Oy;have J:=(Me q uk _ (Hi q uk (Xi ((Zd s).getD k [])))).2.2;rw[Wo]at J;have:=hd.unk;refine Nt (Mr _ 2 _ (λx _=>?_)) (by rw[List.length_range];omega)
  split<;>simp
 unfold Xu
 split
 ·rw[List.length_append];have:=A (bp (Zd s) k)
  split
  ·omega
  ·simp;omega
 ·have:=G (bp (Zd s) k);omega
theorem Jy{d:Zg}(z:Zl d=true)(hd:Hr d)(uk:Option (List ByteArray))(h:∀ ks,uk=some ks->Y6 ks)(s:ByteArray)(q:s.size<=300):∀ k,k<=(Zd s).length->(Ua (Z3 d uk) s k).length<=2+k*400000
 | 0,_=>by simp[Ua]
 | k+1,hk=>by
  have h1:=Jy z hd uk h s q k Om;have h2:=Zay z hd uk h s q k Om;rw[Gi,List.length_append];omega
end
section
open Go.RowKit TR
theorem Zn0(b o g go n c R row h:Nat)(v:Int)(w:World)(K:w.cell? ⟨b,o,none⟩=some (.int .i64 R))(h2:w.cell? ⟨b,o+2,none⟩=some (.slice (some ⟨g,go,none⟩) n c))(A:w.cell? ⟨g,go+(R*h+row),none⟩=some (.int .i16 v))(I:R*h+row<n)(G:n<=100000) :
  Calls Tryz.prog 198 #[.pointer (some ⟨b,o,none⟩),.int .i64 row,.int .i64 h] w λe w'=>e=.returned (.int .i16 v)/\∃ q,w'=w.drewN q:=by
 obtain⟨m,z⟩:∃ m,m=R*h:=⟨_,rfl⟩;rw[<- z]at A I;have L:(R:Int)*(h:Int)=(m:Int):=by rw[z];simp
 have J:m<=100000:=Om
 clear z;go_enter Tryz.func198,Tryz.ntmps198
 go_wp2_with fail
 go_quiet (fail)
 go_wp2_with fail
 first|go_ret|go_ret2
 exact⟨rfl,_,rfl⟩
end
section
open Go.RowKit TR
theorem Cy(b g n c:Nat)(f:Nat->Nat)(r:Nat)(w:World)(A:r<=1114111)(I:0<n)(G:n<=100000)(J:w.cell? ⟨b,11,none⟩=some (.slice (some ⟨g,0,none⟩) n c))(q:∀ i,i<n->w.cell? ⟨g,i,none⟩=some (.int .u8 (f i:Int))) :
  Calls Tryz.prog 194 #[.pointer (some ⟨b,0,none⟩),.int .i32 r] w λe w'=>e=.returned (.int .u8 (f (if r<n then r else 0):Int))/\w'=w:=by
 by_cases h:r<n
 ·have z:=q r h;rw[if_pos h];clear q;go_enter Tryz.func194,Tryz.ntmps194
  go_wp2_with fail
  first|go_ret|go_ret2
  exact⟨rfl,rfl⟩
 ·have z:=q 0 I;rw[if_neg h];clear q;go_enter Tryz.func194,Tryz.ntmps194
  go_wp2_with fail
  first|go_ret|go_ret2
  exact⟨rfl,rfl⟩
end
end Go.Proofs.YtlfoalomaofejaaGreatDoor
