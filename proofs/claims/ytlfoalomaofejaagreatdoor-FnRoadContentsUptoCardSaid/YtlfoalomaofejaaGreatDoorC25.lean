/- Build's dictionaries in plain  -/
import Derived.Test.YtlfoalomaofejaaGreatDoorC22
import Derived.Test.YtlfoalomaofejaaGreatDoorC24
set_option linter.all false
set_option maxRecDepth 100000
namespace Go.Proofs.YtlfoalomaofejaaGreatDoor
section
open Go.RowKit DT SS TR LT
def Zfv(u:GWord):Wd:=⟨u.left,u.right,u.weight⟩
def Kk(u:GUnk):Wd:=⟨u.left,u.right,u.weight⟩
def Z2(d:Zg)(uk:Option (List ByteArray)):Dk where
 known:=(Zu d).map Zfv
 unk:=(Ze d).map Kk
 find:=told ((Zu d).map GWord.surface)
 user:=uk.map told
 cat r:=(U9 d.chars (if r<65536 then r else 0)).toNat
 invoke c:=(d.classes.getD c ⟨.empty,false,false⟩).invoke
 group c:=(d.classes.getD c ⟨.empty,false,false⟩).group
 idx c:=(numOf (look (Vv (Ze d)).1 (c:Int))).toNat
 dup c:=(numOf (look (Vv (Ze d)).2 (c:Int))).toNat
 conn r l:=d.costs.getD (d.rows*l+r).toNat 0
def V7(ku:Nat)(ks:List ByteArray)(H U:Nat)(w:World):Prop :=
 ∃ g n mb,w.cell? ⟨ku,0,none⟩=some (.slice (some ⟨g,0,none⟩) n n)/\w.cell? ⟨ku,1,none⟩=some (.map (some mb))/\U5 w g n mb ks/\(H<=ku/\ku<U)/\(H<=g/\g<U)/\(H<=mb/\mb<U)
theorem V7.keep{ku H U:Nat}{ks:List ByteArray}{S:Nat->Prop}{w w':World}(h:V7 ku ks H U w)(f:Fr S w w')(hS:∀ b,H<=b->b<U->¬ S b):V7 ku ks H U w':=by
 obtain⟨g,n,mb,h1,h2,h3,h4,h5,h6⟩:=h;exact⟨g,n,mb,f.cell h1 (hS _ h4.1 h4.2),f.cell h2 (hS _ h4.1 h4.2),h3.keep f (hS _ h5.1 h5.2) (hS _ h6.1 h6.2),h4,h5,h6⟩
structure Yz(ws:List ByteArray):Prop where
 asc:Asc ws
 plain:∀ x∈ws,Ws x=true
 len:ws.length<=1000
theorem Py{d:Zg}(hr:Zm d=true)(hd:I4 d):Yz ((Zu d).map GWord.surface):=by
 refine⟨Of d.words,λx hx=>?_,?_⟩
 ·obtain⟨u,hu,rfl⟩:=List.mem_map.1 hx;exact (Te hr u ((Zy _ _).mem_iff.1 hu)).2.2.2
 ·rw[List.length_map,Co];exact hd.words
theorem N8{α β:Type}(f:α->List β)(m:Nat):∀ l:List α,(∀ x∈l,(f x).length<=m)->(l.flatMap f).length<=l.length*m
 | [],_=>by simp
 | x::l,h=>by
  have h1:=h x (by simp);have h2:=N8 f m l (λy hy=>h y (by simp[hy]));rw[List.flatMap_cons,List.length_append,List.length_cons,Nat.add_mul];omega
theorem Ni{ws:List ByteArray}(hw:Yz ws)(s:ByteArray):(told ws s).length<=s.size*1000:=by
 rw[Zdo (Qc _ _ rfl hw.asc) (λx hx=>(Y4 (hw.plain x hx)).1)];unfold Jz;refine Nt (N8 _ 1000 _ (λj _=>?_)) (by simp);rw[List.length_map];have:=hw.len;unfold Ib;refine Nt (List.length_filter_le _ _) (by simpa using this)
theorem Q3{ws:List ByteArray}(hw:Yz ws){s:ByteArray}{x:Nat×Nat}(hx:x∈told ws s):∃ h:x.1<ws.length,ws[x.1].size=x.2/\ws[x.1].data.toList <+: s.data.toList:=by
 rw[Zdo (Qc _ _ rfl hw.asc) (λx hx=>(Y4 (hw.plain x hx)).1)]at hx;obtain⟨j,hj,hx⟩:=List.mem_flatMap.1 hx;obtain⟨i,hi,rfl⟩:=List.mem_map.1 hx;obtain⟨hi1,hi2⟩:=List.mem_filter.1 hi;have hil:i<ws.length:=List.mem_range.1 hi1;have hjs:j<s.size:=List.mem_range.1 hj
 have e:ws[i]=s.extract 0 (j+1):=by
  have:=of_decide_eq_true hi2;rwa[Ge hil,Option.getD_some]at this
 refine⟨hil,?_,?_⟩
 ·rw[e,ByteArray.size_extract];omega
 ·rw[e,extract_toList];exact List.take_prefix _ _
theorem Zkc{d:Zg}{s:ByteArray}{ws:List ByteArray}(hw:Yz ws)(hs:Rd s)(k:Nat)(hk:k<=(Zd s).length)(cls:Nat)(mo:Nat->Wd)(hmo:∀ i,i<ws.length->Mk d cls i (mo i)) :
  Ix d s k (bp (Zd s) k) cls (Lib.runeCount s+2) mo (told ws (s.extract (bp (Zd s) k) s.size)):=by
 intro x hx;obtain⟨hi,h1,h2⟩:=Q3 hw hx;have hp:=Y4 (hw.plain _ (List.getElem_mem hi));obtain⟨a1,a2,a3⟩:=K8 hs k hk hp.2.2 h2;rw[h1]at a1 a3;refine⟨hmo _ hi,by rw[a1];exact Mi s _,?_,by have:=hw.len;omega⟩;rw[a3,UC.count_chunk,Sm];omega
theorem Gp{d:Zg}(i:Nat)(hi:i<((Zu d).map GWord.surface).length):Mk d 1 i (((Zu d).map Zfv).getD i default):=by
 rw[List.length_map]at hi;exact .inr (.inl ⟨rfl,hi,by rw[List.getD_eq_getElem?_getD,List.getElem?_map,Ge hi];rfl⟩)
theorem Fy{d:Zg}(i:Nat)(hi:i<(Ze d).length):Mk d 2 i (((Ze d).map Kk).getD i default) :=
 .inr (.inr ⟨rfl,hi,by rw[List.getD_eq_getElem?_getD,List.getElem?_map,Ge hi];rfl⟩)
theorem Cx(d:Zg)(ks:List ByteArray)(s:ByteArray)(k pos:Nat):Z7 s k pos 3 (λ_=>zeroM) (told ks (s.extract pos s.size))=Uk (Z2 d (some ks)) s k pos:=rfl
theorem Gn(d:Zg)(uk:Option (List ByteArray))(s:ByteArray)(k pos:Nat):Z7 s k pos 1 (λi=>((Zu d).map Zfv).getD i default) (told ((Zu d).map GWord.surface) (s.extract pos s.size))=Vf (Z2 d uk) s k pos:=rfl
end
section
open Go.RowKit DT SS TR LT
theorem Zx.up{d:Zg}{kd H U V:Nat}{w:World}(h:Zx d kd H U w)(h1:U<=V)(h2:V<=w.heap.size):Zx d kd H V w:=by
 obtain⟨mm,cc,mp,gl,g,n,mb,ko,mi,md,mu,vk,v0,v1,v4,v7,v10,v12,v13,u0,u4,_,Fs,a,b,c⟩:=h;exact⟨mm,cc,mp,gl,g,n,mb,ko,mi,md,mu,vk,v0,v1,v4,v7,v10,v12,v13,u0,u4,h2,Fs,a,b,λi hi x hx=>⟨(c i hi x hx).1,Nat.lt_of_lt_of_le (c i hi x hx).2 h1⟩⟩
theorem V7.up{ku H U V:Nat}{ks:List ByteArray}{w:World}(h:V7 ku ks H U w)(h1:U<=V):V7 ku ks H V w:=by
 obtain⟨g,n,mb,a1,a2,a3,a4,a5,a6⟩:=h;exact⟨g,n,mb,a1,a2,a3,⟨a4.1,Om⟩,⟨a5.1,Om⟩,⟨a6.1,Om⟩⟩
def Tn(U:Nat):Prop:=1<U/\2<U
structure BX(uk:Option (Nat×List ByteArray))(H U kl br it:Nat)(s:ByteArray)(p:Nat)(kk:Int)(w:World):Prop where
 usr:w.cell? ⟨kl,4,none⟩=some (.pointer (uk.map λx=>⟨x.1,0,none⟩))
 user:∀ x,uk=some x->V7 x.1 x.2 H U w
 u8:U8 w
 itr:w.heap[it]?=some (.stringIter s p)
 hbr:w.heap[br]?=some (.cells #[.int .i64 kk] 3 (0,0))
theorem BX.keep{uk:Option (Nat×List ByteArray)}{H U kl br it:Nat}{s:ByteArray}{p:Nat}{kk:Int}{w w':World}{S:Nat->Prop}(h:BX uk H U kl br it s p kk w)(hG:Tn U)(f:Fr S w w')(hS:∀ j,S j->U<=j/\j≠kl/\j≠br/\j≠it):BX uk H U kl br it s p kk w' :=
 ⟨f.cell h.usr (λe=>(hS _ e).2.1 rfl),λx e=>(h.user x e).keep f (λb _ hb e=>by have:=(hS _ e).1;omega),h.u8.fr f (λe=>by have:=(hS _ e).1;have:=hG.1;omega) (λe=>by have:=(hS _ e).1;have:=hG.2;omega),
  f.heap h.itr (λe=>(hS _ e).2.2.2 rfl),f.heap h.hbr (λe=>(hS _ e).2.2.1 rfl)⟩
structure BM(d:Zg)(uk:Option (Nat×List ByteArray))(kd H U kl g R c bl br bq bi ba it:Nat)(s:ByteArray)(k pos p:Nat)(ns:List Nd)(any:Bool)(w:World):Prop where
 fix:Zbq d kd H U kl g R c bl br bq bi s k pos w
 x:BX uk H U kl br it s p k w
 an:w.cell? ⟨ba,0,none⟩=some (.bool any)/\w.frozen? ⟨ba,0,none⟩=false
 lat:∃ O,Kg U kl bl br bq bi g R ns O w/\¬ O ba/\¬ O it
 ba:Ko U kl bl br bq bi ba/\ba≠it
section
variable{d:Zg}{uk:Option (Nat×List ByteArray)}{kd H U kl g R c bl br bq bi ba it:Nat}{s:ByteArray}{k pos p:Nat}{ns:List Nd}{any:Bool}{w w':World}
theorem BM.itlt(h:BM d uk kd H U kl g R c bl br bq bi ba it s k pos p ns any w):it<w.heap.size:=(Gs1.1 h.x.itr).1
theorem BM.balt(h:BM d uk kd H U kl g R c bl br bq bi ba it s k pos p ns any w):ba<w.heap.size:=lt_of_cell h.an.1
theorem BM.ext(h:BM d uk kd H U kl g R c bl br bq bi ba it s k pos p ns any w)(hG:Tn U)(f:Zf w w'):BM d uk kd H U kl g R c bl br bq bi ba it s k pos p ns any w':=by
 obtain⟨O,l1,l2⟩:=h.lat;exact⟨h.fix.keep f (λj e=>e.elim),h.x.keep hG f (λj e=>e.elim),⟨f.cell h.an.1 id,(f.frozen h.an.1 id).trans h.an.2⟩,⟨O,l1.ext f,l2⟩,h.ba⟩
theorem BM.told{O:Nat->Prop}{cls:Nat}{mo:Nat->Wd}{L:List (Nat×Nat)}(h:BM d uk kd H U kl g R c bl br bq bi ba it s k pos p ns any w)(hG:Tn U)(hOit:¬ O it)(hOb:∀ j,O j->Ko U kl bl br bq bi j)
  {O':Nat->Prop} (hJ:CbJ d kd H U kl g R c bl br bq bi ba s k pos cls mo ns L O' L.length w') (hO:∀ b,O' b->O b\/w.heap.size<=b) (hf:Fr O w w') :
  BM d uk kd H U kl g R c bl br bq bi ba it s k pos p (ns++Z7 s k pos cls mo L) (decide (0<L.length)) w':=by
 obtain⟨j1,j2,O1,j3,j4,j5⟩:=hJ;rw[List.take_length]at j3;refine⟨j1,h.x.keep hG hf (λj e=>?_),j2,⟨O1,j3,j4,λe=>?_⟩,h.ba⟩
 ·have:=hOb j e;exact⟨this.1,this.2.1,this.2.2.2.1,λq=>hOit (q▸e)⟩
 ·rcases hO it ((j5 it).2 (.inl e)) with q|q
  ·exact hOit q
  ·have:=h.itlt;omega
theorem Gy(cg cls:Nat)(mo:Nat->Wd)(gx nx mb:Nat)(ws:List ByteArray)(henter:∀ args w,(callFunc cg args).run Tryz.prog w=.ok (.enter cg args) w)(hw:Yz ws)(hs:Rd s)(hsz:s.size<=300)(hk:k<=(Zd s).length)(hpos:pos=bp (Zd s) k)(hR:R=Lib.runeCount s+2)(hns:ns.length<=900000000)(hG:Tn U)
  (hmo:∀ i,i<ws.length->Mk d cls i (mo i)) (hcb:∀ (L:List (Nat×Nat)),Ix d s k pos cls R mo L->ns.length+L.length<=1000000000->∀ (O:Nat->Prop) (m:Nat) (hm:m<L.length) (w:World),CbJ d kd H U kl g R c bl br bq bi ba s k pos cls mo ns L O m w ->
   Calls Tryz.prog cg #[.int .i64 (L[m].1:Int),.int .i64 (L[m].2:Int),.pointer (some ⟨bl,0,none⟩),.pointer (some ⟨br,0,none⟩),.pointer (some ⟨bq,0,none⟩),.pointer (some ⟨bi,0,none⟩),.pointer (some ⟨ba,0,none⟩)] w λe w'=>e=.returned (.tuple #[])/\∃ O',CbJ d kd H U kl g R c bl br bq bi ba s k pos cls mo ns L O' (m+1) w'/\(∀ b,O' b->O b\/w.heap.size<=b)/\Fr O w w')
  (h:BM d uk kd H U kl g R c bl br bq bi ba it s k pos p ns false w) (hidx:U5 w gx nx mb ws) (hgx:gx<U/\mb<U) :
  Calls Tryz.prog 191 #[.agg #[.slice (some ⟨gx,0,none⟩) nx nx,.map (some mb)],.string (s.extract pos s.size),.func (.func cg) #[] #[.pointer (some ⟨bl,0,none⟩),.pointer (some ⟨br,0,none⟩),.pointer (some ⟨bq,0,none⟩),.pointer (some ⟨bi,0,none⟩),.pointer (some ⟨ba,0,none⟩)]] w λe w'=>e=.returned (.tuple #[]) /\
   BM d uk kd H U kl g R c bl br bq bi ba it s k pos p (ns++Z7 s k pos cls mo (told ws (s.extract pos s.size))) (decide (0<(told ws (s.extract pos s.size)).length)) w'/\Fr (λj=>U<=j) w w':=by
 obtain⟨O0,l1,l2,l3⟩:=h.lat
 have hL:Ix d s k pos cls R mo (told ws (s.extract pos s.size)):=by
  subst hpos hR;exact Zkc hw hs k hk cls mo hmo
 have hlen:(told ws (s.extract pos s.size)).length<=300000:=by
  have h1:=Ni hw (s.extract pos s.size);have h2:(s.extract pos s.size).size<=300:=by rw[ByteArray.size_extract];omega
  omega
 have hstart:CbJ d kd H U kl g R c bl br bq bi ba s k pos cls mo ns (told ws (s.extract pos s.size)) (λj=>O0 j\/j=ba) 0 w :=
  ⟨h.fix,h.an,O0,by simpa [Z7] using l1,l2,λj=>Iff.rfl⟩
 have hOb:∀ j,(O0 j\/j=ba)->Ko U kl bl br bq bi j:=by
  rintro j (e|rfl)
  ·obtain⟨vs,nb,_,q2,q3,_⟩:=l1;exact q2 j ((q3 j).1 e)
  ·exact h.ba.1
 have hOit:¬ (O0 it\/it=ba):=by
  rintro (e|e)
  ·exact l3 e
  ·exact h.ba.2 e.symm
 have hR0:0<R:=Om
 have hcall:=Zi3 gx nx mb cg #[.pointer (some ⟨bl,0,none⟩),.pointer (some ⟨br,0,none⟩),.pointer (some ⟨bq,0,none⟩),.pointer (some ⟨bi,0,none⟩),.pointer (some ⟨ba,0,none⟩)] ws (s.extract pos s.size) (λO m w=>CbJ d kd H U kl g R c bl br bq bi ba s k pos cls mo ns (told ws (s.extract pos s.size)) O m w)
  ⟨henter,λO m w w' hj hx=>?_,λO m hm w hj=>hcb _ hL Om O m hm w hj⟩ (λj=>O0 j\/j=ba) w hstart hidx (λb hb=>?_) ⟨λe=>?_,λe=>?_⟩ (Qc _ _ rfl hw.asc) (by have:=hw.len;omega) (λx hx=>(Y4 (hw.plain x hx)).1) (by rw[ByteArray.size_extract];omega)
 ·refine hcall.mono ?_;rintro e w' ⟨rfl,O',hJ,hO,hf⟩;exact⟨rfl,h.told hG hOit hOb hJ hO hf,hf.mono (λj _ e=>(hOb j e).1)⟩
 ·obtain⟨j1,⟨j2,j2'⟩,O1,j3,j4⟩:=hj;exact⟨j1.keep hx (λ_ e=>e.elim),⟨hx.cell j2 id,(hx.frozen j2 id).trans j2'⟩,O1,j3.ext hx,j4⟩
 ·rcases hb with e|rfl
  ·obtain⟨vs,nb,q1,q2,q3,_⟩:=l1;exact q1.lt hR0 b ((q3 b).1 e)
  ·exact h.balt
 ·have:=(hOb _ e).1;omega
 ·have:=(hOb _ e).1;omega
theorem BM.node(hr:Zm d=true)(h:BM d uk kd H U kl g R c bl br bq bi ba it s k pos p ns any w)(hG:Tn U)(hR:R<=1000000)(hns:ns.length<=900000000)(m:Wd)(id l:Nat)(hm:Mk d 2 id m)(hin:pos+l<=s.size)(hsz:s.size<=300)(hf:k+Lib.runeCount (s.extract pos (pos+l))<R)(hk:k<=1000000) :
  Calls Tryz.prog 190 #[.pointer (some ⟨kl,0,none⟩),.int .i64 k,.int .i64 (id:Int),.int .i64 pos,.int .i64 k,.int .i64 2,.string (s.extract pos (pos+l))] w λe w'=>e=.returned (.tuple #[])/\BM d uk kd H U kl g R c bl br bq bi ba it s k pos p (ns++[Xi s k pos 2 m id l]) any w'/\Fr (λj=>U<=j) w w':=by
 obtain⟨O,⟨vs,nb,h1,h2,h3,h4⟩,l2,l3⟩:=h.lat;refine (Us kl g R c vs ns nb (Xi s k pos 2 m id l) k w h.fix.list hR h1 (λe=>(h2 _ e).2.1 rfl) Om (J5 hr h.fix.dict h.fix.dic hm) (by show (s.extract pos (pos+l)).size<=1000000;rw[ByteArray.size_extract];omega) rfl hf ⟨by show pos<=1000000;omega,hk⟩).mono ?_;rintro e w' ⟨rfl,vs',nb',a1,a2,a3,a4,a5⟩;have hbl:=h.balt;have hil:=h.itlt;have hb':¬ Yt g R vs ba:=λe=>l2 ((h3 _).2 e)
 have hi':¬ Yt g R vs it:=λe=>l3 ((h3 _).2 e)
 refine⟨rfl,⟨h.fix.keep a2 h2,h.x.keep hG a2 (λj e=>⟨(h2 j e).1,(h2 j e).2.1,(h2 j e).2.2.2.1,λq=>hi' (q▸e)⟩),⟨a2.cell h.an.1 hb',(a2.frozen h.an.1 hb').trans h.an.2⟩,⟨Yt g R vs',⟨vs',nb',a1,λj e=>(a3 j e).elim (h2 j) h.fix.new,λj=>Iff.rfl,λq hq=>(by
  rw[List.length_append,List.length_singleton]at hq;rcases Nat.lt_or_ge q ns.length with z|z
  ·rw[a4 q z];exact h4 q z
  ·have ez:q=ns.length:=Om;rw[ez];have:=h.fix.dict.lt
   omega)⟩,λe=>(a3 _ e).elim hb' Om,λe=>(a3 _ e).elim hi' Om⟩,h.ba⟩,a2.mono (λj _ e=>(h2 j e).1)⟩
end
theorem R5{w:World}{b o it p:Nat}{s:ByteArray}{v:Value}(h:w.cell? ⟨b,o,none⟩=some v)(hi:w.heap[it]?=some (.stringIter s p)):b≠it:=by
 intro e;subst e;simp[World.cell?,hi]at h
structure BH(d:Zg)(uk:Option (Nat×List ByteArray))(kd H U kl g R bl br bi it:Nat)(s:ByteArray)(ns:List Nd)(k p:Nat)(w:World):Prop where
 la:w.cell? ⟨bl,0,none⟩=some (.pointer (some ⟨kl,0,none⟩))
 inp:w.cell? ⟨bi,0,none⟩=some (.string s)
 list:w.cell? ⟨kl,2,none⟩=some (.slice (some ⟨g,0,none⟩) R R)
 dic:w.cell? ⟨kl,3,none⟩=some (.pointer (some ⟨kd,0,none⟩))
 dict:Zx d kd H U w
 x:BX uk H U kl br it s p ((k:Int)-1) w
 lat:∃ vs nb,Ym w g R vs ns nb (λ_=>0) (λ_=>none)/\(∀ j,Yt g R vs j->U<=j/\j≠kl/\j≠bl/\j≠br/\j≠bi/\j≠it)/\∀ m,m<ns.length->U<=nb m
 ne:(U<=br/\U<=it)/\br≠kl/\br≠bl/\br≠bi
section
variable{d:Zg}{uk:Option (Nat×List ByteArray)}{kd H U kl g R bl br bi it:Nat}{s:ByteArray}{k p:Nat}{ns:List Nd}{w w':World}
theorem BH.rp(h:BH d uk kd H U kl g R bl br bi it s ns k p w):w.cell? ⟨br,0,none⟩=some (.int .i64 ((k:Int)-1))/\w.frozen? ⟨br,0,none⟩=false:=⟨Zb h.x.hbr 0 _ rfl,Zi h.x.hbr 0⟩
theorem BH.begin(h:BH d uk kd H U kl g R bl br bi it s ns k p w)(hG:Tn U)(p' pos:Nat){W:World}(hf:Fr (λj=>j=it\/j=br) w W)(hi:W.heap[it]?=some (.stringIter s p'))(hb:W.heap[br]?=some (.cells #[.int .i64 k] 3 (0,0))){bq ba:Nat}(hq:W.cell? ⟨bq,0,none⟩=some (.int .i64 pos))(ha:W.cell? ⟨ba,0,none⟩=some (.bool false)/\W.frozen? ⟨ba,0,none⟩=false)(hn:w.heap.size<=bq/\w.heap.size<=ba/\bq≠ba)(hR:0<R) :
  BM d uk kd H U kl g R R bl br bq bi ba it s k pos p' ns false W:=by
 obtain⟨vs,nb,h1,h2,h4⟩:=h.lat;have i0:=h.x.itr;have l1:=lt_of_cell h.la;have l2:=lt_of_cell h.inp;have l3:=lt_of_cell h.list;have l4:=lt_of_cell h.rp.1;have l5:it<w.heap.size:=(Gs1.1 i0).1;have l6:=h.dict.lt;simp only at l1 l2 l3 l4;obtain⟨⟨n1,n2⟩,n3,n4,n5⟩:=h.ne;have c1:bl≠it:=R5 h.la i0;have c2:bi≠it:=R5 h.inp i0;have c3:kl≠it:=R5 h.list i0;have hS:∀ b,H<=b->b<U->¬ (b=it\/b=br):=λb _ hb e=>by omega
 have hbq:Ko U kl bl br bq bi ba:=⟨Om,Om,Om,Om,Om,Om⟩;have hbi:br≠it:=R5 h.rp.1 i0;have hLR:∀ j,Yt g R vs j->j<w.heap.size:=h1.lt hR;have hno:∀ j,Yt g R vs j->¬ (j=it\/j=br):=λj hj e=>by have:=h2 j hj;omega
 have hnn:∀ m,m<ns.length->¬ (nb m=it\/nb m=br):=λm hm e=>by
  have hm1:=h1.node m hm;rcases e with e|e
  ·rw[e,i0]at hm1;cases hm1
  ·rw[e,h.x.hbr]at hm1;simp only[Option.some.injEq,Obj.cells.injEq,Xd]at hm1;have:=congrArg Array.size hm1.1;simp at this
 refine⟨⟨hf.cell h.la (by rintro (e|e)<;>simp only at e<;>omega),Zb hb 0 _ rfl,hq,hf.cell h.inp (by rintro (e|e)<;>simp only at e<;>omega),hf.cell h.list (by rintro (e|e)<;>simp only at e<;>omega),hf.cell h.dic (by rintro (e|e)<;>simp only at e<;>omega),h.dict.keep hf hS⟩,
  ⟨hf.cell h.x.usr (by rintro (e|e)<;>simp only at e<;>omega),λx e=>(h.x.user x e).keep hf hS,h.x.u8.fr hf (λe=>by have:=hG.1;omega) (λe=>by have:=hG.2;omega),hi,hb⟩,ha,
  ⟨Yt g R vs,⟨vs,nb,h1.keep hf hno hnn,λj hj=>?_,λj=>Iff.rfl,h4⟩,λe=>?_,λe=>?_⟩,hbq,Om⟩
 ·have:=h2 j hj;have:=hLR j hj;exact⟨Om,Om,Om,Om,Om,Om⟩
 ·have:=hLR _ e;omega
 ·exact (h2 _ e).2.2.2.2.2 rfl
theorem BM.done{bq ba pos:Nat}{any:Bool}(h:BM d uk kd H U kl g R R bl br bq bi ba it s k pos p ns any w)(hne:(U<=br/\U<=it)/\br≠kl/\br≠bl/\br≠bi):BH d uk kd H U kl g R bl br bi it s ns (k+1) p w:=by
 obtain⟨O,⟨vs,nb,h1,h2,h3,h4⟩,l2,l3⟩:=h.lat;obtain⟨x1,x2,x3,x4,x5⟩:=h.x;refine⟨h.fix.la,h.fix.inp,h.fix.list,h.fix.dic,h.fix.dict,⟨x1,x2,x3,x4,?_⟩,⟨vs,nb,h1,λj hj=>?_,h4⟩,hne⟩
 ·rw[(Om:((k+1:Nat):Int)-1=(k:Int))];exact x5
 ·have:=h2 j hj;exact⟨this.1,this.2.1,this.2.2.1,this.2.2.2.1,this.2.2.2.2.2,λe=>l3 ((h3 _).2 (e▸hj))⟩
end
end
section
open Go.RowKit DT SS TR LT
theorem Zbg{d:Zg}(hr:Zm d=true)(r:Nat):0<=U9 d.chars r/\U9 d.chars r<d.classes.length:=by
 have hd:=Wu hr;have h:=Ly hr
 have:∀ (l:List Qq) (a:Int),(∀ c∈l,0<=c.cls/\c.cls<d.classes.length)->(0<=a/\a<d.classes.length)->0<=l.foldl (λa c=>if c.lo<=(r:Int)/\(r:Int)<=c.hi then c.cls else a) a/\l.foldl (λa c=>if c.lo<=(r:Int)/\(r:Int)<=c.hi then c.cls else a) a<d.classes.length:=by
  intro l
  induction l with
  | nil=>intro a _ ha;exact ha
  | cons c l ih =>
   intro a hl ha;rw[List.foldl_cons];refine ih _ (λx hx=>hl x (by simp[hx])) ?_
   split
   ·exact hl c (by simp)
   ·exact ha
 exact this d.chars 0 (λc hc=>(h c hc).2.2) ⟨Om,Om⟩
theorem Zlw{d:Zg}(hr:Zm d=true)(r:Nat):((U9 d.chars r).toNat:Int)=U9 d.chars r:=by
 have:=Zbg hr r;omega
theorem It{d:Zg}(hr:Zm d=true)(uk:Option (List ByteArray))(r:Nat):(Z2 d uk).cat r<d.classes.length:=by
 have:=Zbg hr (if r<65536 then r else 0);show (U9 d.chars (if r<65536 then r else 0)).toNat<_;omega
theorem Zah(us:List GUnk):∀ (k:Nat),k<=us.length->∀ c:Int,(look (Zp us k).1 c=none/\look (Zp us k).2 c=none/\∀ j (h:j<us.length),j<k->us[j].cls≠c)\/∃ i m:Nat,look (Zp us k).1 c=some (.int .i32 i)/\(look (Zp us k).2 c).getD (.int .i32 0)=.int .i32 (m:Int)/\numOf (look (Zp us k).2 c)=(m:Int)/\i+m<k
 | 0,_,c=>.inl ⟨rfl,rfl,λj _ h=>Om⟩
 | k+1,hk,c=>by
  have ih:=Zah us k Om;have hg:us.getD k default=us[k]' Om:=by rw[List.getD_eq_getElem?_getD,Ge Om];rfl
  show (look (Y7 (Zp us k) k (us.getD k default)).1 c=none/\look (Y7 (Zp us k) k (us.getD k default)).2 c=none/\_)\/∃ i m:Nat,look (Y7 (Zp us k) k (us.getD k default)).1 c=some (.int .i32 i)/\(look (Y7 (Zp us k) k (us.getD k default)).2 c).getD (.int .i32 0)=.int .i32 (m:Int)/\numOf (look (Y7 (Zp us k) k (us.getD k default)).2 c)=(m:Int)/\i+m<k+1;rw[hg];by_cases e:us[k].cls=c
  ·subst e;rcases ih us[k].cls with ⟨h1,h2,h3⟩|⟨i,m,h1,h2,h3,h4⟩
   ·right;refine⟨k,0,?_,?_,?_,Om⟩<;>unfold Y7<;>rw[h1]<;>simp only
    ·rw[Wi,if_pos rfl]
    ·rw[h2];rfl
    ·rw[h2];rfl
   ·right;refine⟨i,m+1,?_,?_,?_,Om⟩<;>unfold Y7<;>rw[h1]<;>simp only
    ·exact h1
    ·rw[Wi,if_pos rfl,h3];rfl
    ·rw[Wi,if_pos rfl,h3];rfl
  ·have keep1:look (Y7 (Zp us k) k us[k]).1 c=look (Zp us k).1 c:=by
    unfold Y7
    split
    ·rfl
    ·simp only[Wi];rw[if_neg e]
   have keep2:look (Y7 (Zp us k) k us[k]).2 c=look (Zp us k).2 c:=by
    unfold Y7
    split
    ·simp only[Wi];rw[if_neg e]
    ·rfl
   rw[keep1,keep2];rcases ih c with ⟨h1,h2,h3⟩|⟨i,m,h1,h2,h3,h4⟩
   ·refine .inl ⟨h1,h2,λj hj hlt q=>?_⟩;rcases Nat.lt_or_ge j k with a|a
    ·exact h3 j hj a q
    ·have:j=k:=Om;subst this;exact e q
   ·exact .inr ⟨i,m,h1,h2,h3,Om⟩
theorem Nw{d:Zg}(hr:Zm d=true)(uk:Option (List ByteArray))(c:Nat)(hc:c<d.classes.length) :
  (look (Vv (Ze d)).1 (c:Int)).getD (.int .i32 0)=.int .i32 ((Z2 d uk).idx c:Int)/\(look (Vv (Ze d)).2 (c:Int)).getD (.int .i32 0)=.int .i32 ((Z2 d uk).dup c:Int)/\(Z2 d uk).idx c+(Z2 d uk).dup c<(Ze d).length:=by
 have hany:∃ u∈d.unknown,u.cls=(c:Int):=by
  unfold Zm at hr;simp only[Bool.and_eq_true,List.all_eq_true]at hr;have:=hr.2.2.2.2.2.2 c (List.mem_range.2 hc);obtain⟨u,hu,h⟩:=List.any_eq_true.1 this;exact⟨u,hu,by simpa using h⟩
 obtain⟨u,hu,huc⟩:=hany;have hm:u∈Ze d:=(Zy _ _).mem_iff.2 hu;obtain⟨j,hj,rfl⟩:=List.getElem_of_mem hm;rcases Zah (Ze d) (Ze d).length (Nl _) (c:Int) with ⟨_,_,h3⟩|⟨i,m,h1,h2,h3,h4⟩
 ·exact absurd huc (h3 j hj hj)
 ·have e1:(Z2 d uk).idx c=i:=by
   show (numOf (look (Vv (Ze d)).1 (c:Int))).toNat=i;unfold Vv;rw[h1];rfl
  have e2:(Z2 d uk).dup c=m:=by
   show (numOf (look (Vv (Ze d)).2 (c:Int))).toNat=m;unfold Vv;rw[h3];rfl
  rw[e1,e2];refine⟨by unfold Vv;rw[h1];rfl,h2,h4⟩
theorem P1(cat:Nat->Nat)(c:Nat):∀ (n:Nat) (l:List (List UInt8)),Wx cat c n l<=l.length
 | 0,_=>by simp[Wx]
 | _+1,[]=>by simp[Wx]
 | n+1,x::l=>by
  unfold Wx
  split
  ·have:=P1 cat c n l;simp;omega
  ·simp
theorem Zin(cat:Nat->Nat)(c:Nat)(n:Nat)(ds:List (List UInt8))(j:Nat)(hj:j<ds.length):Wx cat c (n+1) (ds.drop j)=if cat (Xa ds[j])=c then 1+Wx cat c n (ds.drop (j+1)) else 0:=by
 rw[List.drop_eq_getElem_cons hj];rfl
theorem Zlj(cat:Nat->Nat)(c:Nat)(n:Nat)(ds:List (List UInt8))(j:Nat)(hj:ds.length<=j):Wx cat c n (ds.drop j)=0:=by
 rw[List.drop_eq_nil_of_le hj];cases n<;>rfl
theorem Zma{s:ByteArray}(hs:Rd s){a b:Nat}(h:a<b)(hb:b<=(Zd s).length):bp (Zd s) a<bp (Zd s) b:=by
 have h1:=Mf (Zd s) a Om;have h2:=Mh (Zd s) ((Om:a+1<=b));have h3:=List.length_pos_iff.2 (hs _ (List.getElem_mem ((Om:a<(Zd s).length)))).1.1;omega
theorem Zae{d:Zg}(hr:Zm d=true)(hd:I4 d)(uk:Option (List ByteArray))(hu:∀ ks,uk=some ks->Yz ks)(s:ByteArray)(hs:s.size<=300)(k:Nat)(hk:k<(Zd s).length):(Xl (Z2 d uk) s (Zd s) k).length<=400000:=by
 have e1:∀ p,(s.extract p s.size).size<=300:=λp=>by rw[ByteArray.size_extract];omega
 have l1:∀ p,(Uk (Z2 d uk) s k p).length<=300000:=λp=>by
  unfold Uk
  cases huk:(Z2 d uk).user with
  | none=>simp
  | some f =>
   simp only[List.length_map]
   cases uk with
   | none=>cases huk
   | some ks =>
    have e:f=told ks:=by
     have:some (told ks)=some f:=huk;injection this with this
     exact this.symm
    rw[e];have:=Ni (hu ks rfl) (s.extract p s.size);have:=e1 p;omega
 have l2:∀ p,(Vf (Z2 d uk) s k p).length<=300000:=λp=>by
  unfold Vf;rw[List.length_map];have h1:(told ((Zu d).map GWord.surface) (s.extract p s.size)).length<=_:=Ni (Py hr hd) (s.extract p s.size);have:=e1 p;show (told ((Zu d).map GWord.surface) (s.extract p s.size)).length<=_;omega
 have l3:(Ok (Z2 d uk) s (Zd s) k).length<=2002:=by
  unfold Ok;have hm:=(Nw hr uk _ (It hr uk (Xa ((Zd s).getD k [])))).2.2;rw[Wj]at hm;have:=hd.unk;refine Nt (N8 _ 2 _ (λx _=>?_)) (by rw[List.length_range];omega)
  split<;>simp
 unfold Xl
 split
 ·rw[List.length_append];have:=l2 (bp (Zd s) k)
  split
  ·omega
  ·simp;omega
 ·have:=l1 (bp (Zd s) k);omega
theorem Je{d:Zg}(hr:Zm d=true)(hd:I4 d)(uk:Option (List ByteArray))(hu:∀ ks,uk=some ks->Yz ks)(s:ByteArray)(hs:s.size<=300):∀ k,k<=(Zd s).length->(V2 (Z2 d uk) s k).length<=2+k*400000
 | 0,_=>by simp[V2]
 | k+1,hk=>by
  have h1:=Je hr hd uk hu s hs k Om;have h2:=Zae hr hd uk hu s hs k Om;rw[Hk,List.length_append];omega
end
section
open Go.RowKit TR
theorem Zmx(b o g go n c R row col:Nat)(v:Int)(w:World)(h0:w.cell? ⟨b,o,none⟩=some (.int .i64 R))(h2:w.cell? ⟨b,o+2,none⟩=some (.slice (some ⟨g,go,none⟩) n c))(hv:w.cell? ⟨g,go+(R*col+row),none⟩=some (.int .i16 v))(hn:R*col+row<n)(hn2:n<=100000) :
  Calls Tryz.prog 198 #[.pointer (some ⟨b,o,none⟩),.int .i64 row,.int .i64 col] w λe w'=>e=.returned (.int .i16 v)/\∃ q,w'=w.drewN q:=by
 obtain⟨m,hm⟩:∃ m,m=R*col:=⟨_,rfl⟩;rw[<- hm]at hv hn;have e1:(R:Int)*(col:Int)=(m:Int):=by rw[hm];simp
 have hm2:m<=100000:=Om
 clear hm;go_enter Tryz.func198,Tryz.ntmps198
 go_wp2_with fail
 go_quiet (fail)
 go_wp2_with fail
 first|go_ret|go_ret2
 exact⟨rfl,_,rfl⟩
end
section
open Go.RowKit TR
theorem Dv(b g n c:Nat)(f:Nat->Nat)(r:Nat)(w:World)(hr2:r<=1114111)(hn:0<n)(hn2:n<=100000)(hc:w.cell? ⟨b,11,none⟩=some (.slice (some ⟨g,0,none⟩) n c))(hg:∀ i,i<n->w.cell? ⟨g,i,none⟩=some (.int .u8 (f i:Int))) :
  Calls Tryz.prog 194 #[.pointer (some ⟨b,0,none⟩),.int .i32 r] w λe w'=>e=.returned (.int .u8 (f (if r<n then r else 0):Int))/\w'=w:=by
 by_cases h:r<n
 ·have hg1:=hg r h;rw[if_pos h];clear hg;go_enter Tryz.func194,Tryz.ntmps194
  go_wp2_with fail
  first|go_ret|go_ret2
  exact⟨rfl,rfl⟩
 ·have hg1:=hg 0 hn;rw[if_neg h];clear hg;go_enter Tryz.func194,Tryz.ntmps194
  go_wp2_with fail
  first|go_ret|go_ret2
  exact⟨rfl,rfl⟩
end
end Go.Proofs.YtlfoalomaofejaaGreatDoor
