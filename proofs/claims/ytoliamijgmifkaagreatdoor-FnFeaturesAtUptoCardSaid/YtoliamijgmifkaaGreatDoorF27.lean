/- Build's dictionaries in plain Lean; which words are told. · Build: what holds while a character's no -/
import Derived.Test.YtoliamijgmifkaaGreatDoorF24
import Derived.Test.YtoliamijgmifkaaGreatDoorF26
set_option linter.all false
set_option maxRecDepth 100000
namespace Go.Proofs.YtoliamijgmifkaaGreatDoor
section
open Go.RowKit DT SS TR LT
def Zdm(u:GWord):Xy:=⟨u.left,u.right,u.weight⟩
def Lh(u:GUnk):Xy:=⟨u.left,u.right,u.weight⟩
def Zu(d:Zf)(uk:Option (List ByteArray)):Dk where
 known:=(Zr d).map Zdm
 unk:=(Ze d).map Lh
 find:=told ((Zr d).map GWord.surface)
 user:=uk.map told
 cat r:=(Ut d.chars (if r<65536 then r else 0)).toNat
 invoke c:=(d.classes.getD c ⟨.empty,false,false⟩).invoke
 group c:=(d.classes.getD c ⟨.empty,false,false⟩).group
 idx c:=(numOf (look (Vm (Ze d)).1 (c:Int))).toNat
 dup c:=(numOf (look (Vm (Ze d)).2 (c:Int))).toNat
 conn r l:=d.costs.getD (d.rows*l+r).toNat 0
def Vw(ku:Nat)(ks:List ByteArray)(H U:Nat)(w:World):Prop :=
 ∃ g n mb,w.cell? ⟨ku,0,none⟩=some (.slice (some ⟨g,0,none⟩) n n)/\w.cell? ⟨ku,1,none⟩=some (.map (some mb))/\Uq w g n mb ks/\(H<=ku/\ku<U)/\(H<=g/\g<U)/\(H<=mb/\mb<U)
theorem Vw.keep{ku H U:Nat}{ks:List ByteArray}{S:Nat->Prop}{w w':World}(h:Vw ku ks H U w)(f:Fr S w w')(hS:∀ b,H<=b->b<U->¬ S b):Vw ku ks H U w':=by
 obtain⟨g,n,mb,h1,h2,h3,h4,h5,h6⟩:=h;exact⟨g,n,mb,f.cell h1 (hS _ h4.1 h4.2),f.cell h2 (hS _ h4.1 h4.2),h3.keep f (hS _ h5.1 h5.2) (hS _ h6.1 h6.2),h4,h5,h6⟩
structure Yt(ws:List ByteArray):Prop where
 asc:Asc ws
 plain:∀ x∈ws,Wl x=true
 len:ws.length<=1000
theorem Q6{d:Zf}(hr:Zk d=true)(hd:DOk d):Yt ((Zr d).map GWord.surface):=by
 refine⟨Pm d.words,fun x hx=>?_,?_⟩
 ·obtain⟨u,hu,rfl⟩:=List.mem_map.1 hx;exact (Uz hr u ((Zw _ _).mem_iff.1 hu)).2.2.2
 ·rw[List.length_map,Fv];exact hd.words
theorem Na{α β:Type}(f:α->List β)(m:Nat):∀ l:List α,(∀ x∈l,(f x).length<=m)->(l.flatMap f).length<=l.length*m
 | [],_=>by simp
 | x::l,h=>by
  have h1:=h x (by simp);have h2:=Na f m l (fun y hy=>h y (by simp[hy]));rw[List.flatMap_cons,List.length_append,List.length_cons,Nat.add_mul];omega
theorem Oc{ws:List ByteArray}(hw:Yt ws)(s:ByteArray):(told ws s).length<=s.size*1000:=by
 rw[Zbc (Rg _ _ rfl hw.asc) (fun x hx=>(Yz (hw.plain x hx)).1)];unfold Km;refine Nat.le_trans (Na _ 1000 _ (fun j _=>?_)) (by simp);rw[List.length_map];have:=hw.len;unfold Ky;refine Nat.le_trans (List.length_filter_le _ _) (by simpa using this)
theorem Qg{ws:List ByteArray}(hw:Yt ws){s:ByteArray}{x:Nat × Nat}(hx:x∈told ws s):∃ h:x.1<ws.length,ws[x.1].size=x.2/\ws[x.1].data.toList <+: s.data.toList:=by
 rw[Zbc (Rg _ _ rfl hw.asc) (fun x hx=>(Yz (hw.plain x hx)).1)]at hx;obtain⟨j,hj,hx⟩:=List.mem_flatMap.1 hx;obtain⟨i,hi,rfl⟩:=List.mem_map.1 hx;obtain⟨hi1,hi2⟩:=List.mem_filter.1 hi;have hil:i<ws.length:=List.mem_range.1 hi1;have hjs:j<s.size:=List.mem_range.1 hj
 have e:ws[i]=s.extract 0 (j+1):=by
  have:=of_decide_eq_true hi2;rwa[List.getElem?_eq_getElem hil,Option.getD_some]at this
 refine⟨hil,?_,?_⟩
 ·rw[e,ByteArray.size_extract];omega
 ·rw[e,extract_toList];exact List.take_prefix _ _
theorem Zhr{d:Zf}{s:ByteArray}{ws:List ByteArray}(hw:Yt ws)(hs:Rd s)(k:Nat)(hk:k<=(Zd s).length)(cls:Nat)(mo:Nat->Xy)(hmo:∀ i,i<ws.length->Nm d cls i (mo i)) :
  Jj d s k (bp (Zd s) k) cls (Lib.runeCount s+2) mo (told ws (s.extract (bp (Zd s) k) s.size)):=by
 intro x hx;obtain⟨hi,h1,h2⟩:=Qg hw hx;have hp:=Yz (hw.plain _ (List.getElem_mem hi));obtain⟨a1,a2,a3⟩:=Lu hs k hk hp.2.2 h2;rw[h1]at a1 a3;refine⟨hmo _ hi,by rw[a1];exact Nj s _,?_,by have:=hw.len;omega⟩;rw[a3,UC.count_chunk,Th];omega
theorem It{d:Zf}(i:Nat)(hi:i<((Zr d).map GWord.surface).length):Nm d 1 i (((Zr d).map Zdm).getD i default):=by
 rw[List.length_map]at hi;exact .inr (.inl ⟨rfl,hi,by rw[List.getD_eq_getElem?_getD,List.getElem?_map,List.getElem?_eq_getElem hi];rfl⟩)
theorem Hn{d:Zf}(i:Nat)(hi:i<(Ze d).length):Nm d 2 i (((Ze d).map Lh).getD i default) :=
 .inr (.inr ⟨rfl,hi,by rw[List.getD_eq_getElem?_getD,List.getElem?_map,List.getElem?_eq_getElem hi];rfl⟩)
theorem Fz(d:Zf)(ks:List ByteArray)(s:ByteArray)(k pos:Nat):Z3 s k pos 3 (fun _=>zeroM) (told ks (s.extract pos s.size))=V7 (Zu d (some ks)) s k pos:=rfl
theorem Ir(d:Zf)(uk:Option (List ByteArray))(s:ByteArray)(k pos:Nat):Z3 s k pos 1 (fun i=>((Zr d).map Zdm).getD i default) (told ((Zr d).map GWord.surface) (s.extract pos s.size))=Ww (Zu d uk) s k pos:=rfl
end
section
open Go.RowKit DT SS TR LT
theorem Zv.up{d:Zf}{kd H U V:Nat}{w:World}(h:Zv d kd H U w)(h1:U<=V)(h2:V<=w.heap.size):Zv d kd H V w:=by
 obtain⟨mm,cc,mp,gl,g,n,mb,ko,mi,md,mu,vk,v0,v1,v4,v7,v10,v12,v13,u0,u4,_,Fs,a,b,c⟩:=h;exact⟨mm,cc,mp,gl,g,n,mb,ko,mi,md,mu,vk,v0,v1,v4,v7,v10,v12,v13,u0,u4,h2,Fs,a,b,fun i hi x hx=>⟨(c i hi x hx).1,Nat.lt_of_lt_of_le (c i hi x hx).2 h1⟩⟩
theorem Vw.up{ku H U V:Nat}{ks:List ByteArray}{w:World}(h:Vw ku ks H U w)(h1:U<=V):Vw ku ks H V w:=by
 obtain⟨g,n,mb,a1,a2,a3,a4,a5,a6⟩:=h;exact⟨g,n,mb,a1,a2,a3,⟨a4.1,by omega⟩,⟨a5.1,by omega⟩,⟨a6.1,by omega⟩⟩
def Tb(U:Nat):Prop:=0<U/\1<U
structure BX(uk:Option (Nat × List ByteArray))(H U kl br it:Nat)(s:ByteArray)(p:Nat)(kk:Int)(w:World):Prop where
 usr:w.cell? ⟨kl,4,none⟩=some (.pointer (uk.map fun x=>⟨x.1,0,none⟩))
 user:∀ x,uk=some x->Vw x.1 x.2 H U w
 u8:U8 w
 itr:w.heap[it]? = some (.stringIter s p)
 hbr:w.heap[br]? = some (.cells #[.int .i64 kk] 3 (0,0))
theorem BX.keep{uk:Option (Nat × List ByteArray)}{H U kl br it:Nat}{s:ByteArray}{p:Nat}{kk:Int}{w w':World}{S:Nat->Prop}(h:BX uk H U kl br it s p kk w)(hG:Tb U)(f:Fr S w w')(hS:∀ j,S j->U<=j/\j≠kl/\j≠br/\j≠it):BX uk H U kl br it s p kk w' :=
 ⟨f.cell h.usr (fun e=>(hS _ e).2.1 rfl),fun x e=>(h.user x e).keep f (fun b _ hb e=>by have:=(hS _ e).1;omega),h.u8.fr f (fun e=>by have:=(hS _ e).1;have:=hG.1;omega) (fun e=>by have:=(hS _ e).1;have:=hG.2;omega),
  f.heap h.itr (fun e=>(hS _ e).2.2.2 rfl),f.heap h.hbr (fun e=>(hS _ e).2.2.1 rfl)⟩
structure BM(d:Zf)(uk:Option (Nat × List ByteArray))(kd H U kl g R c bl br bq bi ba it:Nat)(s:ByteArray)(k pos p:Nat)(ns:List Nd)(any:Bool)(w:World):Prop where
 fix:Bh d kd H U kl g R c bl br bq bi s k pos w
 x:BX uk H U kl br it s p k w
 an:w.cell? ⟨ba,0,none⟩=some (.bool any)/\w.frozen? ⟨ba,0,none⟩=false
 lat:∃ O,Le U kl bl br bq bi g R ns O w/\¬ O ba/\¬ O it
 ba:Ll U kl bl br bq bi ba/\ba≠it
section
variable{d:Zf}{uk:Option (Nat × List ByteArray)}{kd H U kl g R c bl br bq bi ba it:Nat}{s:ByteArray}{k pos p:Nat}{ns:List Nd}{any:Bool}{w w':World}
theorem BM.itlt(h:BM d uk kd H U kl g R c bl br bq bi ba it s k pos p ns any w):it<w.heap.size:=(Array.getElem?_eq_some_iff.1 h.x.itr).1
theorem BM.balt(h:BM d uk kd H U kl g R c bl br bq bi ba it s k pos p ns any w):ba<w.heap.size:=lt_of_cell h.an.1
theorem BM.ext(h:BM d uk kd H U kl g R c bl br bq bi ba it s k pos p ns any w)(hG:Tb U)(f:Ext w w'):BM d uk kd H U kl g R c bl br bq bi ba it s k pos p ns any w':=by
 obtain⟨O,l1,l2⟩:=h.lat;exact⟨h.fix.keep f (fun j e=>e.elim),h.x.keep hG f (fun j e=>e.elim),⟨f.cell h.an.1 id,(f.frozen h.an.1 id).trans h.an.2⟩,⟨O,l1.ext f,l2⟩,h.ba⟩
theorem BM.told{O:Nat->Prop}{cls:Nat}{mo:Nat->Xy}{L:List (Nat × Nat)}(h:BM d uk kd H U kl g R c bl br bq bi ba it s k pos p ns any w)(hG:Tb U)(hOit:¬ O it)(hOb:∀ j,O j->Ll U kl bl br bq bi j)
  {O':Nat->Prop} (hJ:CbJ d kd H U kl g R c bl br bq bi ba s k pos cls mo ns L O' L.length w') (hO:∀ b,O' b->O b\/w.heap.size<=b) (hf:Fr O w w') :
  BM d uk kd H U kl g R c bl br bq bi ba it s k pos p (ns++Z3 s k pos cls mo L) (decide (0<L.length)) w':=by
 obtain⟨j1,j2,O1,j3,j4,j5⟩:=hJ;rw[List.take_length]at j3;refine⟨j1,h.x.keep hG hf (fun j e=>?_),j2,⟨O1,j3,j4,fun e=>?_⟩,h.ba⟩
 ·have:=hOb j e;exact⟨this.1,this.2.1,this.2.2.2.1,fun q=>hOit (q ▸ e)⟩
 ·rcases hO it ((j5 it).2 (.inl e)) with q|q
  ·exact hOit q
  ·have:=h.itlt;omega
theorem I3(cg cls:Nat)(mo:Nat->Xy)(gx nx mb:Nat)(ws:List ByteArray)(henter:∀ args w,(callFunc cg args).run Tryz.prog w = .ok (.enter cg args) w)(hw:Yt ws)(hs:Rd s)(hsz:s.size<=300)(hk:k<=(Zd s).length)(hpos:pos=bp (Zd s) k)(hR:R=Lib.runeCount s+2)(hns:ns.length<=900000000)(hG:Tb U)
  (hmo:∀ i,i<ws.length->Nm d cls i (mo i)) (hcb:∀ (L:List (Nat × Nat)),Jj d s k pos cls R mo L->ns.length+L.length<=1000000000->∀ (O:Nat->Prop) (m:Nat) (hm:m<L.length) (w:World),CbJ d kd H U kl g R c bl br bq bi ba s k pos cls mo ns L O m w ->
   Calls Tryz.prog cg #[.int .i64 (L[m].1:Int),.int .i64 (L[m].2:Int),.pointer (some ⟨bl,0,none⟩),.pointer (some ⟨br,0,none⟩),.pointer (some ⟨bq,0,none⟩),.pointer (some ⟨bi,0,none⟩),.pointer (some ⟨ba,0,none⟩)] w fun e w'=>e = .returned (.tuple #[])/\∃ O',CbJ d kd H U kl g R c bl br bq bi ba s k pos cls mo ns L O' (m+1) w'/\(∀ b,O' b->O b\/w.heap.size<=b)/\Fr O w w')
  (h:BM d uk kd H U kl g R c bl br bq bi ba it s k pos p ns false w) (hidx:Uq w gx nx mb ws) (hgx:gx<U/\mb<U) :
  Calls Tryz.prog 105 #[.agg #[.slice (some ⟨gx,0,none⟩) nx nx,.map (some mb)],.string (s.extract pos s.size),.func (.func cg) #[] #[.pointer (some ⟨bl,0,none⟩),.pointer (some ⟨br,0,none⟩),.pointer (some ⟨bq,0,none⟩),.pointer (some ⟨bi,0,none⟩),.pointer (some ⟨ba,0,none⟩)]] w fun e w'=>e = .returned (.tuple #[]) /\
   BM d uk kd H U kl g R c bl br bq bi ba it s k pos p (ns++Z3 s k pos cls mo (told ws (s.extract pos s.size))) (decide (0<(told ws (s.extract pos s.size)).length)) w'/\Fr (fun j=>U<=j) w w':=by
 obtain⟨O0,l1,l2,l3⟩:=h.lat
 have hL:Jj d s k pos cls R mo (told ws (s.extract pos s.size)):=by
  subst hpos hR;exact Zhr hw hs k hk cls mo hmo
 have hlen:(told ws (s.extract pos s.size)).length<=300000:=by
  have h1:=Oc hw (s.extract pos s.size);have h2:(s.extract pos s.size).size<=300:=by rw[ByteArray.size_extract];omega
  omega
 have hstart:CbJ d kd H U kl g R c bl br bq bi ba s k pos cls mo ns (told ws (s.extract pos s.size)) (fun j=>O0 j\/j=ba) 0 w :=
  ⟨h.fix,h.an,O0,by simpa [Z3] using l1,l2,fun j=>Iff.rfl⟩
 have hOb:∀ j,(O0 j\/j=ba)->Ll U kl bl br bq bi j:=by
  rintro j (e|rfl)
  ·obtain⟨vs,nb,_,q2,q3,_⟩:=l1;exact q2 j ((q3 j).1 e)
  ·exact h.ba.1
 have hOit:¬ (O0 it\/it=ba):=by
  rintro (e|e)
  ·exact l3 e
  ·exact h.ba.2 e.symm
 have hR0:0<R:=by omega
 have hcall:=Zgp gx nx mb cg #[.pointer (some ⟨bl,0,none⟩),.pointer (some ⟨br,0,none⟩),.pointer (some ⟨bq,0,none⟩),.pointer (some ⟨bi,0,none⟩),.pointer (some ⟨ba,0,none⟩)] ws (s.extract pos s.size) (fun O m w=>CbJ d kd H U kl g R c bl br bq bi ba s k pos cls mo ns (told ws (s.extract pos s.size)) O m w)
  ⟨henter,fun O m w w' hj hx=>?_,fun O m hm w hj=>hcb _ hL (by omega) O m hm w hj⟩ (fun j=>O0 j\/j=ba) w hstart hidx (fun b hb=>?_) ⟨fun e=>?_,fun e=>?_⟩ (Rg _ _ rfl hw.asc) (by have:=hw.len;omega) (fun x hx=>(Yz (hw.plain x hx)).1) (by rw[ByteArray.size_extract];omega)
 ·refine hcall.mono ?_;rintro e w' ⟨rfl,O',hJ,hO,hf⟩;exact⟨rfl,h.told hG hOit hOb hJ hO hf,hf.mono (fun j _ e=>(hOb j e).1)⟩
 ·obtain⟨j1,⟨j2,j2'⟩,O1,j3,j4⟩:=hj;exact⟨j1.keep hx (fun _ e=>e.elim),⟨hx.cell j2 id,(hx.frozen j2 id).trans j2'⟩,O1,j3.ext hx,j4⟩
 ·rcases hb with e|rfl
  ·obtain⟨vs,nb,q1,q2,q3,_⟩:=l1;exact q1.lt hR0 b ((q3 b).1 e)
  ·exact h.balt
 ·have:=(hOb _ e).1;omega
 ·have:=(hOb _ e).1;omega
theorem BM.node(hr:Zk d=true)(h:BM d uk kd H U kl g R c bl br bq bi ba it s k pos p ns any w)(hG:Tb U)(hR:R<=1000000)(hns:ns.length<=900000000)(m:Xy)(id l:Nat)(hm:Nm d 2 id m)(hin:pos+l<=s.size)(hsz:s.size<=300)(hf:k+Lib.runeCount (s.extract pos (pos+l))<R)(hk:k<=1000000) :
  Calls Tryz.prog 104 #[.pointer (some ⟨kl,0,none⟩),.int .i64 k,.int .i64 (id:Int),.int .i64 pos,.int .i64 k,.int .i64 2,.string (s.extract pos (pos+l))] w fun e w'=>e = .returned (.tuple #[])/\BM d uk kd H U kl g R c bl br bq bi ba it s k pos p (ns++[Xc s k pos 2 m id l]) any w'/\Fr (fun j=>U<=j) w w':=by
 obtain⟨O,⟨vs,nb,h1,h2,h3,h4⟩,l2,l3⟩:=h.lat;refine (Uf kl g R c vs ns nb (Xc s k pos 2 m id l) k w h.fix.list hR h1 (fun e=>(h2 _ e).2.1 rfl) (by omega) (Ks hr h.fix.dict h.fix.dic hm) (by show (s.extract pos (pos+l)).size<=1000000;rw[ByteArray.size_extract];omega) rfl hf ⟨by show pos<=1000000;omega,hk⟩).mono ?_;rintro e w' ⟨rfl,vs',nb',a1,a2,a3,a4,a5⟩;have hbl:=h.balt;have hil:=h.itlt;have hb':¬ Ys g R vs ba:=fun e=>l2 ((h3 _).2 e)
 have hi':¬ Ys g R vs it:=fun e=>l3 ((h3 _).2 e)
 refine⟨rfl,⟨h.fix.keep a2 h2,h.x.keep hG a2 (fun j e=>⟨(h2 j e).1,(h2 j e).2.1,(h2 j e).2.2.2.1,fun q=>hi' (q ▸ e)⟩),⟨a2.cell h.an.1 hb',(a2.frozen h.an.1 hb').trans h.an.2⟩,⟨Ys g R vs',⟨vs',nb',a1,fun j e=>(a3 j e).elim (h2 j) h.fix.new,fun j=>Iff.rfl,fun q hq=>(by
  rw[List.length_append,List.length_singleton]at hq;rcases Nat.lt_or_ge q ns.length with z|z
  ·rw[a4 q z];exact h4 q z
  ·have ez:q=ns.length:=by omega
   rw[ez];have:=h.fix.dict.lt
   omega)⟩,fun e=>(a3 _ e).elim hb' (by omega),fun e=>(a3 _ e).elim hi' (by omega)⟩,h.ba⟩,a2.mono (fun j _ e=>(h2 j e).1)⟩
end
theorem Sy{w:World}{b o it p:Nat}{s:ByteArray}{v:Value}(h:w.cell? ⟨b,o,none⟩=some v)(hi:w.heap[it]? = some (.stringIter s p)):b≠it:=by
 intro e;subst e;simp[World.cell?,hi]at h
structure BH(d:Zf)(uk:Option (Nat × List ByteArray))(kd H U kl g R bl br bi it:Nat)(s:ByteArray)(ns:List Nd)(k p:Nat)(w:World):Prop where
 la:w.cell? ⟨bl,0,none⟩=some (.pointer (some ⟨kl,0,none⟩))
 inp:w.cell? ⟨bi,0,none⟩=some (.string s)
 list:w.cell? ⟨kl,2,none⟩=some (.slice (some ⟨g,0,none⟩) R R)
 dic:w.cell? ⟨kl,3,none⟩=some (.pointer (some ⟨kd,0,none⟩))
 dict:Zv d kd H U w
 x:BX uk H U kl br it s p ((k:Int)-1) w
 lat:∃ vs nb,Yk w g R vs ns nb (fun _=>0) (fun _=>none)/\(∀ j,Ys g R vs j->U<=j/\j≠kl/\j≠bl/\j≠br/\j≠bi/\j≠it)/\∀ m,m<ns.length->U<=nb m
 ne:(U<=br/\U<=it)/\br≠kl/\br≠bl/\br≠bi
section
variable{d:Zf}{uk:Option (Nat × List ByteArray)}{kd H U kl g R bl br bi it:Nat}{s:ByteArray}{k p:Nat}{ns:List Nd}{w w':World}
theorem BH.rp(h:BH d uk kd H U kl g R bl br bi it s ns k p w):w.cell? ⟨br,0,none⟩=some (.int .i64 ((k:Int)-1))/\w.frozen? ⟨br,0,none⟩=false:=⟨Zb h.x.hbr 0 _ rfl,Zh h.x.hbr 0⟩
theorem BH.begin(h:BH d uk kd H U kl g R bl br bi it s ns k p w)(hG:Tb U)(p' pos:Nat){W:World}(hf:Fr (fun j=>j=it\/j=br) w W)(hi:W.heap[it]? = some (.stringIter s p'))(hb:W.heap[br]? = some (.cells #[.int .i64 k] 3 (0,0))){bq ba:Nat}(hq:W.cell? ⟨bq,0,none⟩=some (.int .i64 pos))(ha:W.cell? ⟨ba,0,none⟩=some (.bool false)/\W.frozen? ⟨ba,0,none⟩=false)(hn:w.heap.size<=bq/\w.heap.size<=ba/\bq≠ba)(hR:0<R) :
  BM d uk kd H U kl g R R bl br bq bi ba it s k pos p' ns false W:=by
 obtain⟨vs,nb,h1,h2,h4⟩:=h.lat;have i0:=h.x.itr;have l1:=lt_of_cell h.la;have l2:=lt_of_cell h.inp;have l3:=lt_of_cell h.list;have l4:=lt_of_cell h.rp.1;have l5:it<w.heap.size:=(Array.getElem?_eq_some_iff.1 i0).1;have l6:=h.dict.lt;simp only at l1 l2 l3 l4;obtain⟨⟨n1,n2⟩,n3,n4,n5⟩:=h.ne;have c1:bl≠it:=Sy h.la i0;have c2:bi≠it:=Sy h.inp i0;have c3:kl≠it:=Sy h.list i0;have hS:∀ b,H<=b->b<U->¬ (b=it\/b=br):=fun b _ hb e=>by omega
 have hbq:Ll U kl bl br bq bi ba:=⟨by omega,by omega,by omega,by omega,by omega,by omega⟩;have hbi:br≠it:=Sy h.rp.1 i0;have hLR:∀ j,Ys g R vs j->j<w.heap.size:=h1.lt hR;have hno:∀ j,Ys g R vs j->¬ (j=it\/j=br):=fun j hj e=>by have:=h2 j hj;omega
 have hnn:∀ m,m<ns.length->¬ (nb m=it\/nb m=br):=fun m hm e=>by
  have hm1:=h1.node m hm;rcases e with e|e
  ·rw[e,i0]at hm1;cases hm1
  ·rw[e,h.x.hbr]at hm1;simp only[Option.some.injEq,Obj.cells.injEq,Y7]at hm1;have:=congrArg Array.size hm1.1;simp at this
 refine⟨⟨hf.cell h.la (by rintro (e|e) <;> simp only at e <;> omega),Zb hb 0 _ rfl,hq,hf.cell h.inp (by rintro (e|e) <;> simp only at e <;> omega),hf.cell h.list (by rintro (e|e) <;> simp only at e <;> omega),hf.cell h.dic (by rintro (e|e) <;> simp only at e <;> omega),h.dict.keep hf hS⟩,
  ⟨hf.cell h.x.usr (by rintro (e|e) <;> simp only at e <;> omega),fun x e=>(h.x.user x e).keep hf hS,h.x.u8.fr hf (fun e=>by have:=hG.1;omega) (fun e=>by have:=hG.2;omega),hi,hb⟩,ha,
  ⟨Ys g R vs,⟨vs,nb,h1.keep hf hno hnn,fun j hj=>?_,fun j=>Iff.rfl,h4⟩,fun e=>?_,fun e=>?_⟩,hbq,by omega⟩
 ·have:=h2 j hj;have:=hLR j hj;exact⟨by omega,by omega,by omega,by omega,by omega,by omega⟩
 ·have:=hLR _ e;omega
 ·exact (h2 _ e).2.2.2.2.2 rfl
theorem BM.done{bq ba pos:Nat}{any:Bool}(h:BM d uk kd H U kl g R R bl br bq bi ba it s k pos p ns any w)(hne:(U<=br/\U<=it)/\br≠kl/\br≠bl/\br≠bi):BH d uk kd H U kl g R bl br bi it s ns (k+1) p w:=by
 obtain⟨O,⟨vs,nb,h1,h2,h3,h4⟩,l2,l3⟩:=h.lat;obtain⟨x1,x2,x3,x4,x5⟩:=h.x;refine⟨h.fix.la,h.fix.inp,h.fix.list,h.fix.dic,h.fix.dict,⟨x1,x2,x3,x4,?_⟩,⟨vs,nb,h1,fun j hj=>?_,h4⟩,hne⟩
 ·rw[show ((k+1:Nat):Int)-1=(k:Int) by omega];exact x5
 ·have:=h2 j hj;exact⟨this.1,this.2.1,this.2.2.1,this.2.2.2.1,this.2.2.2.2.2,fun e=>l3 ((h3 _).2 (e ▸ hj))⟩
end
end
section
open Go.RowKit DT SS TR LT
theorem C9{d:Zf}(hr:Zk d=true)(r:Nat):0<=Ut d.chars r/\Ut d.chars r<d.classes.length:=by
 have hd:=Wo hr;have h:=Mx hr
 have:∀ (l:List R7) (a:Int),(∀ c∈l,0<=c.cls/\c.cls<d.classes.length)->(0<=a/\a<d.classes.length)->0<=l.foldl (fun a c=>if c.lo<=(r:Int)/\(r:Int)<=c.hi then c.cls else a) a/\l.foldl (fun a c=>if c.lo<=(r:Int)/\(r:Int)<=c.hi then c.cls else a) a<d.classes.length:=by
  intro l
  induction l with
  | nil=>intro a _ ha;exact ha
  | cons c l ih =>
   intro a hl ha;rw[List.foldl_cons];refine ih _ (fun x hx=>hl x (by simp[hx])) ?_
   split
   ·exact hl c (by simp)
   ·exact ha
 exact this d.chars 0 (fun c hc=>(h c hc).2.2) ⟨by omega,by omega⟩
theorem Zi6{d:Zf}(hr:Zk d=true)(r:Nat):((Ut d.chars r).toNat:Int)=Ut d.chars r:=by
 have:=C9 hr r;omega
theorem Jg{d:Zf}(hr:Zk d=true)(uk:Option (List ByteArray))(r:Nat):(Zu d uk).cat r<d.classes.length:=by
 have:=C9 hr (if r<65536 then r else 0);show (Ut d.chars (if r<65536 then r else 0)).toNat<_;omega
theorem Dp(us:List GUnk):∀ (k:Nat),k<=us.length->∀ c:Int,(look (Zo us k).1 c=none/\look (Zo us k).2 c=none/\∀ j (h:j<us.length),j<k->us[j].cls≠c)\/∃ i m:Nat,look (Zo us k).1 c=some (.int .i32 i)/\(look (Zo us k).2 c).getD (.int .i32 0) = .int .i32 (m:Int)/\numOf (look (Zo us k).2 c)=(m:Int)/\i+m<k
 | 0,_,c=>.inl ⟨rfl,rfl,fun j _ h=>by omega⟩
 | k+1,hk,c=>by
  have ih:=Dp us k (by omega);have hg:us.getD k default=us[k]'(by omega):=by rw[List.getD_eq_getElem?_getD,List.getElem?_eq_getElem (by omega)];rfl
  show (look (Y1 (Zo us k) k (us.getD k default)).1 c=none/\look (Y1 (Zo us k) k (us.getD k default)).2 c=none/\_)\/∃ i m:Nat,look (Y1 (Zo us k) k (us.getD k default)).1 c=some (.int .i32 i)/\(look (Y1 (Zo us k) k (us.getD k default)).2 c).getD (.int .i32 0) = .int .i32 (m:Int)/\numOf (look (Y1 (Zo us k) k (us.getD k default)).2 c)=(m:Int)/\i+m<k+1;rw[hg];by_cases e:us[k].cls=c
  ·subst e;rcases ih us[k].cls with ⟨h1,h2,h3⟩|⟨i,m,h1,h2,h3,h4⟩
   ·right;refine⟨k,0,?_,?_,?_,by omega⟩ <;> unfold Y1 <;> rw[h1] <;> simp only
    ·rw[Wd,if_pos rfl]
    ·rw[h2];rfl
    ·rw[h2];rfl
   ·right;refine⟨i,m+1,?_,?_,?_,by omega⟩ <;> unfold Y1 <;> rw[h1] <;> simp only
    ·exact h1
    ·rw[Wd,if_pos rfl,h3];rfl
    ·rw[Wd,if_pos rfl,h3];rfl
  ·have keep1:look (Y1 (Zo us k) k us[k]).1 c=look (Zo us k).1 c:=by
    unfold Y1
    split
    ·rfl
    ·simp only[Wd];rw[if_neg e]
   have keep2:look (Y1 (Zo us k) k us[k]).2 c=look (Zo us k).2 c:=by
    unfold Y1
    split
    ·simp only[Wd];rw[if_neg e]
    ·rfl
   rw[keep1,keep2];rcases ih c with ⟨h1,h2,h3⟩|⟨i,m,h1,h2,h3,h4⟩
   ·refine .inl ⟨h1,h2,fun j hj hlt q=>?_⟩;rcases Nat.lt_or_ge j k with a|a
    ·exact h3 j hj a q
    ·have:j=k:=by omega
     subst this;exact e q
   ·exact .inr ⟨i,m,h1,h2,h3,by omega⟩
theorem Ou{d:Zf}(hr:Zk d=true)(uk:Option (List ByteArray))(c:Nat)(hc:c<d.classes.length) :
  (look (Vm (Ze d)).1 (c:Int)).getD (.int .i32 0) = .int .i32 ((Zu d uk).idx c:Int)/\(look (Vm (Ze d)).2 (c:Int)).getD (.int .i32 0) = .int .i32 ((Zu d uk).dup c:Int)/\(Zu d uk).idx c+(Zu d uk).dup c<(Ze d).length:=by
 have hany:∃ u∈d.unknown,u.cls=(c:Int):=by
  unfold Zk at hr;simp only[Bool.and_eq_true,List.all_eq_true]at hr;have:=hr.2.2.2.2.2.2 c (List.mem_range.2 hc);obtain⟨u,hu,h⟩:=List.any_eq_true.1 this;exact⟨u,hu,by simpa using h⟩
 obtain⟨u,hu,huc⟩:=hany;have hm:u∈Ze d:=(Zw _ _).mem_iff.2 hu;obtain⟨j,hj,rfl⟩:=List.getElem_of_mem hm;rcases Dp (Ze d) (Ze d).length (Nat.le_refl _) (c:Int) with ⟨_,_,h3⟩|⟨i,m,h1,h2,h3,h4⟩
 ·exact absurd huc (h3 j hj hj)
 ·have e1:(Zu d uk).idx c=i:=by
   show (numOf (look (Vm (Ze d)).1 (c:Int))).toNat=i;unfold Vm;rw[h1];rfl
  have e2:(Zu d uk).dup c=m:=by
   show (numOf (look (Vm (Ze d)).2 (c:Int))).toNat=m;unfold Vm;rw[h3];rfl
  rw[e1,e2];refine⟨by unfold Vm;rw[h1];rfl,h2,h4⟩
theorem Q8(cat:Nat->Nat)(c:Nat):∀ (n:Nat) (l:List (List UInt8)),Wr cat c n l<=l.length
 | 0,_=>by simp[Wr]
 | _+1,[]=>by simp[Wr]
 | n+1,x::l=>by
  unfold Wr
  split
  ·have:=Q8 cat c n l;simp;omega
  ·simp
theorem Zgb(cat:Nat->Nat)(c:Nat)(n:Nat)(ds:List (List UInt8))(j:Nat)(hj:j<ds.length):Wr cat c (n+1) (ds.drop j)=if cat (Y4 ds[j])=c then 1+Wr cat c n (ds.drop (j+1)) else 0:=by
 rw[List.drop_eq_getElem_cons hj];rfl
theorem Ziu(cat:Nat->Nat)(c:Nat)(n:Nat)(ds:List (List UInt8))(j:Nat)(hj:ds.length<=j):Wr cat c n (ds.drop j)=0:=by
 rw[List.drop_eq_nil_of_le hj];cases n <;> rfl
theorem Zjf{s:ByteArray}(hs:Rd s){a b:Nat}(h:a<b)(hb:b<=(Zd s).length):bp (Zd s) a<bp (Zd s) b:=by
 have h1:=Nh (Zd s) a (by omega);have h2:=Ni (Zd s) (show a+1<=b by omega);have h3:=List.length_pos_iff.2 (hs _ (List.getElem_mem (show a<(Zd s).length by omega))).1.1;omega
theorem Dj{d:Zf}(hr:Zk d=true)(hd:DOk d)(uk:Option (List ByteArray))(hu:∀ ks,uk=some ks->Yt ks)(s:ByteArray)(hs:s.size<=300)(k:Nat)(hk:k<(Zd s).length):(Xe (Zu d uk) s (Zd s) k).length<=400000:=by
 have e1:∀ p,(s.extract p s.size).size<=300:=fun p=>by rw[ByteArray.size_extract];omega
 have l1:∀ p,(V7 (Zu d uk) s k p).length<=300000:=fun p=>by
  unfold V7
  cases huk:(Zu d uk).user with
  | none=>simp
  | some f =>
   simp only[List.length_map]
   cases uk with
   | none=>cases huk
   | some ks =>
    have e:f=told ks:=by
     have:some (told ks)=some f:=huk;injection this with this
     exact this.symm
    rw[e];have:=Oc (hu ks rfl) (s.extract p s.size);have:=e1 p;omega
 have l2:∀ p,(Ww (Zu d uk) s k p).length<=300000:=fun p=>by
  unfold Ww;rw[List.length_map];have h1:(told ((Zr d).map GWord.surface) (s.extract p s.size)).length<=_:=Oc (Q6 hr hd) (s.extract p s.size);have:=e1 p;show (told ((Zr d).map GWord.surface) (s.extract p s.size)).length<=_;omega
 have l3:(Pp (Zu d uk) s (Zd s) k).length<=2002:=by
  unfold Pp;have hm:=(Ou hr uk _ (Jg hr uk (Y4 ((Zd s).getD k [])))).2.2;rw[We]at hm;have:=hd.unk;refine Nat.le_trans (Na _ 2 _ (fun x _=>?_)) (by rw[List.length_range];omega)
  split <;> simp
 unfold Xe
 split
 ·rw[List.length_append];have:=l2 (bp (Zd s) k)
  split
  ·omega
  ·simp;omega
 ·have:=l1 (bp (Zd s) k);omega
theorem L1{d:Zf}(hr:Zk d=true)(hd:DOk d)(uk:Option (List ByteArray))(hu:∀ ks,uk=some ks->Yt ks)(s:ByteArray)(hs:s.size<=300):∀ k,k<=(Zd s).length->(Vu (Zu d uk) s k).length<=2+k*400000
 | 0,_=>by simp[Vu]
 | k+1,hk=>by
  have h1:=L1 hr hd uk hu s hs k (by omega);have h2:=Dj hr hd uk hu s hs k (by omega);rw[Jy,List.length_append];omega
end
section
open Go.RowKit TR
theorem Zj1(b o g go n c R row col:Nat)(v:Int)(w:World)(h0:w.cell? ⟨b,o,none⟩=some (.int .i64 R))(h2:w.cell? ⟨b,o+2,none⟩=some (.slice (some ⟨g,go,none⟩) n c))(hv:w.cell? ⟨g,go+(R*col+row),none⟩=some (.int .i16 v))(hn:R*col+row<n)(hn2:n<=100000) :
  Calls Tryz.prog 112 #[.pointer (some ⟨b,o,none⟩),.int .i64 row,.int .i64 col] w fun e w'=>e = .returned (.int .i16 v)/\∃ q,w'=w.drewN q:=by
 obtain⟨m,hm⟩:∃ m,m=R*col:=⟨_,rfl⟩;rw[<- hm]at hv hn;have e1:(R:Int)*(col:Int)=(m:Int):=by rw[hm];simp
 have hm2:m<=100000:=by omega
 clear hm;go_enter Tryz.func112,Tryz.ntmps112
 go_wp2_with fail
 go_quiet (fail)
 go_wp2_with fail
 first|go_ret|go_ret2
 exact⟨rfl,_,rfl⟩
end
section
open Go.RowKit TR
theorem Fe(b g n c:Nat)(f:Nat->Nat)(r:Nat)(w:World)(hr2:r<=1114111)(hn:0<n)(hn2:n<=100000)(hc:w.cell? ⟨b,11,none⟩=some (.slice (some ⟨g,0,none⟩) n c))(hg:∀ i,i<n->w.cell? ⟨g,i,none⟩=some (.int .u8 (f i:Int))) :
  Calls Tryz.prog 108 #[.pointer (some ⟨b,0,none⟩),.int .i32 r] w fun e w'=>e = .returned (.int .u8 (f (if r<n then r else 0):Int))/\w'=w:=by
 by_cases h:r<n
 ·have hg1:=hg r h;rw[if_pos h];clear hg;go_enter Tryz.func108,Tryz.ntmps108
  go_wp2_with fail
  first|go_ret|go_ret2
  exact⟨rfl,rfl⟩
 ·have hg1:=hg 0 hn;rw[if_neg h];clear hg;go_enter Tryz.func108,Tryz.ntmps108
  go_wp2_with fail
  first|go_ret|go_ret2
  exact⟨rfl,rfl⟩
end
end Go.Proofs.YtoliamijgmifkaaGreatDoor
