/- impl.dictOf: the plain data of -/
import Derived.Test.YtlfoalomaofejaaGreatDoorC21
import Derived.StillTail
import Derived.OrdersHeld
import Derived.Deep.RegionHeld
set_option linter.all false
set_option maxRecDepth 100000
set_option maxHeartbeats 2000000
namespace Go.Proofs.YtlfoalomaofejaaGreatDoor
section
open Go.RowKit DT SS TR
def Uj(g n mb:Nat)(ws:List ByteArray):Qx :=
 ⟨λF w=>U5 w g n mb ws/\F g/\F mb,by
  rintro F w w' ⟨⟨⟨B,C,T,⟨cs,a1,a2⟩,a3⟩,l,b1,b2⟩,h1,h2⟩ hs hf;have hm:=((Lb Tg mb l).st (F:=F) (w:=w) (w':=w') ⟨b1,h2⟩ hs hf).1
  exact⟨⟨⟨B,C,T,⟨cs,frz hs hf h1 a1,a2⟩,a3⟩,l,hm,b2⟩,h1,h2⟩⟩
def Zu(d:Zg):List GWord:=Z6 Vu d.words
def Z8(ws:List GWord):Nat->List ByteArray
 | 0=>[]
 | k+1=>Wa (Z8 ws k) (ws.getD k default).pos
def Uq(ns p:List ByteArray):List Int:=p.map λs=>(((Xt (Wa ns p) s).getD 0:Nat):Int)+1
def Qt(ws:List GWord):Nat->List (List Int)
 | 0=>[]
 | k+1=>Qt ws k++[Uq (Z8 ws k) (ws.getD k default).pos]
abbrev tId:Ty Int:=Ty.scalar (Value.int .u16) (λ_=>True) (λ_=>rfl)
abbrev tIds:Ty (List Int):=Ty.slice tId
def Zes(ws:List GWord):List Value:=ws.flatMap λu=>M9 u.left u.right u.weight
def U9(cs:List Qq)(r:Nat):Int:=cs.foldl (λa c=>if c.lo<=(r:Int)/\(r:Int)<=c.hi then c.cls else a) 0
def Zal(ws:List GWord):List Value:=ws.map λu=>.string u.surface
def Wm(cs:List Int):List Value:=cs.map (Value.int .i16)
theorem Wk(ws:List GWord):∀ k,(Qt ws k).length=k
 | 0=>rfl
 | k+1=>by simp[Qt,Wk ws k]
theorem Zer(ws:List GWord)(k:Nat)(hk:k<ws.length):Zes (ws.take (k+1))=Zes (ws.take k)++M9 ws[k].left ws[k].right ws[k].weight:=by
 rw[List.take_succ_eq_append_getElem hk];simp only[Zes,List.flatMap_append,List.flatMap_cons,List.flatMap_nil,List.append_nil]
theorem Zgn(cs:List Qq)(k:Nat)(hk:k<cs.length)(r:Nat):U9 (cs.take (k+1)) r=if cs[k].lo<=(r:Int)/\(r:Int)<=cs[k].hi then cs[k].cls else U9 (cs.take k) r:=by
 rw[List.take_succ_eq_append_getElem hk];simp only[U9,List.foldl_append,List.foldl_cons,List.foldl_nil]
theorem Pc(ws:List GWord)(hw:∀ u∈ws,u.pos.length<=50):∀ k,k<=ws.length->(Z8 ws k).length<=k*50
 | 0,_=>by simp[Z8]
 | k+1,hk=>by
  have h1:=Pc ws hw k Om;have h2:=Iw (ws.getD k default).pos (Z8 ws k);have e:ws.getD k default=ws[k]' Om:=by rw[List.getD_eq_getElem?_getD,Ge Om];rfl
  have h3:=hw _ (List.getElem_mem ((Om:k<ws.length)));rw[e]at h2;show (Wa (Z8 ws k) (ws.getD k default).pos).length<=_;rw[e];omega
structure I4(d:Zg):Prop where
 words:d.words.length<=1000
 word:∀ u∈d.words,u.pos.length<=50/\u.contents.length<=1000
 unk:d.unknown.length<=1000
 unk1:∀ u∈d.unknown,u.contents.length<=1000
 meta0:d.meta0.length<=1000
 metaU:d.unkMeta.length<=1000
 chars:d.chars.length<=1000
 sum:R8 (d.words.map GWord.surface)<=50000
section
variable{d:Zg}
theorem Te(h:Zm d=true):∀ u∈d.words,(0<=u.left/\u.left<d.cols)/\(0<=u.right/\u.right<d.rows)/\(-32768<=u.weight/\u.weight<=32767)/\Ws u.surface=true:=by
 intro u hu;unfold Zm at h;simp only[Bool.and_eq_true,List.all_eq_true]at h;have:=h.2.2.1 u hu;simp only[Xr,Uf,Bool.not_eq_true',Bool.or_eq_false_iff,decide_eq_false_iff_not,Bool.not_eq_false',decide_eq_true_eq]at this;obtain⟨⟨h1,h2⟩,h3⟩:=this;exact⟨Om,Om,h2,h3⟩
theorem Wu(h:Zm d=true):(1<=d.rows/\d.rows<=64)/\(1<=d.cols/\d.cols<=64)/\(d.costs.length:Int)=d.rows*d.cols/\1<=d.classes.length/\d.classes.length<=12:=by
 unfold Zm at h;simp only[Bool.and_eq_true,Bool.not_eq_true']at h;have:=h.1;simp only[Mj,decide_eq_false_iff_not]at this;refine⟨Om,Om,?_,Om,Om⟩;exact Decidable.not_not.1 (λq=>this (.inr (.inr (.inr (.inr (.inl q))))))
theorem Ju(h:Zm d=true):∀ c∈d.costs,-32768<=c/\c<=32767:=by
 intro c hc;unfold Zm at h;simp only[Bool.and_eq_true,List.all_eq_true]at h;have:=h.2.1 c hc;simpa [Uf] using this
theorem M2(h:Zm d=true):∀ u∈d.unknown,(0<=u.cls/\u.cls<d.classes.length)/\(0<=u.left/\u.left<d.cols)/\(0<=u.right/\u.right<d.rows)/\(-32768<=u.weight/\u.weight<=32767):=by
 intro u hu;unfold Zm at h;simp only[Bool.and_eq_true,List.all_eq_true]at h;have:=h.2.2.2.1 u hu;simp only[Xq,Uf,Bool.not_eq_true',Bool.or_eq_false_iff,decide_eq_false_iff_not,Bool.not_eq_false',decide_eq_true_eq]at this;obtain⟨h1,h2⟩:=this;exact⟨Om,Om,Om,h2⟩
theorem Ly(h:Zm d=true):∀ c∈d.chars,(0<=c.lo/\c.lo<=65535)/\(0<=c.hi/\c.hi<=65535)/\(0<=c.cls/\c.cls<d.classes.length):=by
 intro c hc;unfold Zm at h;simp only[Bool.and_eq_true,List.all_eq_true]at h;have:=h.2.2.2.2.1 c hc;simp only[Xz,Bool.not_eq_true',decide_eq_false_iff_not]at this;omega
theorem Ou(h:Zm d=true):∀ m∈d.meta0++d.unkMeta,0<=m.place/\m.place<=100:=by
 intro m hm;unfold Zm at h;simp only[Bool.and_eq_true,List.all_eq_true]at h;have:=h.2.2.2.2.2.1 m hm;simp only[Ta,Bool.not_eq_true',decide_eq_false_iff_not]at this;omega
theorem Bz(h:Zm d=true)(hd:I4 d):Zjq d.unknown:=by
 have hr:=Wu h;refine⟨by have:=hd.unk;omega,λu hu=>?_⟩;have:=M2 h u hu;have:=hd.unk1 u hu;exact⟨Om,Om,Om,Om,Om⟩
end
def Zag(ns:List ByteArray)(j:Nat):Value:=.string (if j=0 then ⟨#[]⟩ else ns.getD (j-1) ⟨#[]⟩)
abbrev Yg(v0 v1 v2:Value)(mm:Nat)(v4:Value)(rows cols:Int)(v7 ix ib v10:Value)(cc:Nat)(v12 v13 u0 u1 u2 u3 u4:Value):Array Value :=
 #[v0,v1,v2,.map (some mm),v4,.int .i64 rows,.int .i64 cols,v7,ix,ib,v10,.slice (some ⟨cc,0,none⟩) 65536 65536,v12,v13,u0,u1,u2,u3,u4]
abbrev Z4(d:Zg)(ws:List GWord)(kd mm cc mp gl:Nat)(vk v0 v1 v4:Value)(cs:Array Value)(f:Nat->Value):List Qx :=
  [Tj kd cs 225,Lb Xx mm (Xo (Zj d.meta0)),Pn cc 5 65536 f,Lb Xx mp (E3 (Z8 ws ws.length)),
   Yn 9 1 vk ws.length (Zal ws),Yn 178 3 v0 ws.length (Zes ws),rowD tIds 227 v1 (Qt ws ws.length),rowD strs 34 v4 (ws.map GWord.contents),
   Pn gl 9 ((Z8 ws ws.length).length+1) (Zag (Z8 ws ws.length))]
def Zq(d:Zg)(kd mm cc mp gl g n mb ko mi md mu:Nat)(vk v0 v1 v4 v7 v10 v12 v13 u0 u4:Value):List Qx :=
  Z4 d (Zu d) kd mm cc mp gl vk v0 v1 v4 (Yg v0 v1 (.slice (some ⟨gl,0,none⟩) ((Z8 (Zu d) (Zu d).length).length+1) ((Z8 (Zu d) (Zu d).length).length+1)) mm v4 d.rows d.cols v7 (.slice (some ⟨g,0,none⟩) n n) (.map (some mb)) v10 cc v12 v13 u0 (.map (some mi)) (.map (some md)) (.map (some mu)) u4) (λr=>.int .u8 (U9 d.chars r)) ++
  ([Yn 176 1 v7 d.costs.length (Wm d.costs),
    Uj g n mb ((Zu d).map GWord.surface),
    Yn 9 1 v10 d.classes.length (d.classes.map λc=>Value.string c.name),
    Yn 4 1 v12 d.classes.length (d.classes.map λc=>Value.bool c.invoke),
    Yn 4 1 v13 d.classes.length (d.classes.map λc=>Value.bool c.group)] ++
   Nh (Ze d) d.unknown.length ko mi md mu d.unkMeta u0 u4)
abbrev Zw:Value:=.slice none 0 0
abbrev Su(d:Zg)(ws:List GWord)(kd mm cc mp kp k1 k2 k3 k4:Nat)(vk v0 v1 v4:Value):List Qx :=
  [Tj kd (Yg v0 v1 Zw mm v4 0 0 Zw Zw (.map none) Zw cc Zw Zw Zw (.map none) (.map none) (.map none) Zw) 225,
   Lb Xx mm (Xo (Zj d.meta0)),
   Pn cc 5 65536 (λ_=>.int .u8 0),
   Lb Xx mp (E3 (Z8 ws kp)),
   Yn 9 1 vk k1 (Zal (ws.take k1)),
   Yn 178 3 v0 k2 (Zes (ws.take k2)),
   rowD tIds 227 v1 (Qt ws k3),
   rowD strs 34 v4 ((ws.take k4).map GWord.contents)]
theorem Ij{d:Zg}{ws:List GWord}{kd mm cc mp H:Nat}{w:World}(h0:w.heap[kd]?=some (.cells (Yg Zw Zw Zw mm Zw 0 0 Zw Zw (.map none) Zw cc Zw Zw Zw (.map none) (.map none) (.map none) Zw) 225 (0,0)))(h1:Zz Xx mm (Xo (Zj d.meta0)) w)(h2:w.rowIs cc 5 65536 (λ_=>.int .u8 0))(h3:Zz Xx mp [] w)
  (d1:H<=mm) (d2:H<=cc) (d3:mm<kd) (d4:cc<kd) (d5:mm≠cc) (d6:kd<mp):Yo H (Su d ws kd mm cc mp 0 0 0 0 0 Zw Zw Zw Zw) w:=by
 have l0:=(Gs1.1 h0).1;have l3:=h3.lt;refine⟨λi b=>(i=0/\b=kd)\/(i=1/\b=mm)\/(i=2/\b=cc)\/(i=3/\b=mp),λi hi=>?_,λi j hi hj hij b hb hb'=>Om,λi hi b hb=>Om⟩
 match i,hi with
 | 0,_=>exact⟨h0,.inl ⟨rfl,rfl⟩⟩
 | 1,_=>exact⟨h1,.inr (.inl ⟨rfl,rfl⟩)⟩
 | 2,_=>exact⟨h2,.inr (.inr (.inl ⟨rfl,rfl⟩))⟩
 | 3,_=>exact⟨h3,.inr (.inr (.inr ⟨rfl,rfl⟩))⟩
 | 4,_=>exact⟨World.ownsRow_nil _ _ _ _,λb e=>by cases e⟩
 | 5,_=>exact⟨World.ownsRow_nil _ _ _ _,λb e=>by cases e⟩
 | 6,_=>exact⟨[],rfl,World.ownsRow_nil _ _ _ _,(λb e=>by cases e),(λi hi=>by simp[Qt]at hi)⟩
 | 7,_=>exact⟨[],rfl,World.ownsRow_nil _ _ _ _,(λb e=>by cases e),(λi hi=>by simp at hi)⟩
def Zx(d:Zg)(kd H U:Nat)(w:World):Prop :=
 ∃ mm cc mp gl g n mb ko mi md mu vk v0 v1 v4 v7 v10 v12 v13 u0 u4,U3 H U (Zq d kd mm cc mp gl g n mb ko mi md mu vk v0 v1 v4 v7 v10 v12 v13 u0 u4) w
theorem Zx.keep{d:Zg}{kd H U:Nat}{S:Nat->Prop}{w w':World}(h:Zx d kd H U w)(f:Fr S w w')(hS:∀ b,H<=b->b<U->¬ S b):Zx d kd H U w':=by
 obtain⟨mm,cc,mp,gl,g,n,mb,ko,mi,md,mu,vk,v0,v1,v4,v7,v10,v12,v13,u0,u4,h⟩:=h;exact⟨mm,cc,mp,gl,g,n,mb,ko,mi,md,mu,vk,v0,v1,v4,v7,v10,v12,v13,u0,u4,h.keep f hS⟩
end
section
open Go.RowKit DT SS TR
theorem Zik:(Tryz.prog.info? 227).map (λi=>(i.zero,i.size,i.bytes))=some (some (.slice none 0 0),1,24):=Kr
def Zn3(ws:List GWord)(v:Value)(O:Nat->Prop)(w:World):Prop :=
 ∀ k (hk:k<ws.length),∃ b cp A c A' c',v=.slice (some ⟨b,0,none⟩) ws.length cp/\strs.R w O ws[k].pos [.slice A ws[k].pos.length c]/\strs.R w O ws[k].contents [.slice A' ws[k].contents.length c'] /\
  w.cell? ⟨b,k*6,none⟩=some (.string ws[k].surface)/\w.cell? ⟨b,k*6+1,none⟩=some (.int .i64 ws[k].left)/\w.cell? ⟨b,k*6+2,none⟩=some (.int .i64 ws[k].right)/\w.cell? ⟨b,k*6+3,none⟩=some (.int .i64 ws[k].weight) /\
  w.cell? ⟨b,k*6+4,none⟩=some (.slice A ws[k].pos.length c)/\w.cell? ⟨b,k*6+5,none⟩=some (.slice A' ws[k].contents.length c')
theorem Zkq{d:Zg}{O:Nat->Prop}{W1 w2:World}{v:Value}{ds:List (El GWord 5)}(hels:Els tWord Xp 5 W1 O d.words ds)(h:w2.ownsRow W1.heap.size 53 6 v d.words.length ((Z6 (λx y:El GWord 5=>Vu x.key y.key) ds).flatMap (El.enc Xp)))(hf:Fr (λj=>v.ownBlock=some j) W1 w2):Zn3 (Zu d) v O w2:=by
 have e1:=O6 hels Vu;have hl:(Zu d).length=d.words.length:=(Zy _ _).length_eq;have hes:(Z6 (λx y:El GWord 5=>Vu x.key y.key) ds).map El.key=Zu d:=e1.1;have hfr:∀ j,v.ownBlock=some j->W1.heap.size<=j:=λj e=>Y1 (g:=j) h e
 intro k hk;have hk2:k<(Z6 (λx y:El GWord 5=>Vu x.key y.key) ds).length:=by rw[<- hes,List.length_map]at hk;exact hk
 obtain⟨b,cp,e,hc⟩:=Za4 h k hk2
 have hx:(Z6 (λx y:El GWord 5=>Vu x.key y.key) ds)[k].key=(Zu d)[k]:=by
  have:((Z6 (λx y:El GWord 5=>Vu x.key y.key) ds).map El.key)[k]?=(Zu d)[k]?:=by rw[hes]
  rw[List.getElem?_map,Ge hk2,Ge hk]at this;exact Option.some.inj this
 have hr2:tWord.R w2 O (Zu d)[k] ((Z6 (λx y:El GWord 5=>Vu x.key y.key) ds)[k].enc Xp):=by
  rw[<- hx];exact tWord.keep (e1.2 _ (List.getElem_mem hk2)) hf (λj hj _ e=>by have:=hfr j e;omega)
 obtain⟨p,q,e2,hp,hq,_⟩:=Ua hr2;obtain⟨A,c,e3,hp2⟩:=hp;obtain⟨A',c',e4,hq2⟩:=hq;cases e3;cases e4;rw[e2]at hc;rw[hl];exact⟨b,cp,A,c,A',c',e,⟨A,c,rfl,hp2⟩,⟨A',c',rfl,hq2⟩,hc 0 _ rfl,hc 1 _ rfl,hc 2 _ rfl,hc 3 _ rfl,hc 4 _ rfl,hc 5 _ rfl⟩
theorem Zmq{w8:World}{ns p:List ByteArray}{g U:Nat}{f:Nat->Value}(hg:U<=g)(hrow:w8.rowIs g 229 p.length f)(hids:∀ j (h:j<p.length),∃ i,Xt (Wa ns p) p[j]=some i/\f j=.int .u16 ((i:Nat)+1:Int))(hl:p.length<=1000) :
  tIds.R w8 (λj=>U<=j) (Uq ns p) [.slice (some ⟨g,0,none⟩) p.length p.length]:=by
 have hlen:(Uq ns p).length=p.length:=by simp[Uq]
 refine⟨some ⟨g,0,none⟩,p.length,by rw[hlen],Om,(λe=>by cases e),Om,.inr ⟨g,0,rfl,hg,hrow.lt,λi hi=>⟨[.int .u16 (Uq ns p)[i]],⟨rfl,trivial⟩,λj hj=>?_⟩⟩⟩;have hj0:j=0:=by simpa using hj
 subst hj0;have hi2:i<p.length:=Om
 obtain⟨x,h1,h2⟩:=hids i hi2;have e:(Uq ns p)[i]=((x:Nat):Int)+1:=by simp only[Uq,List.getElem_map,h1,Option.getD_some]
 have:=hrow.cell hi2;rw[h2]at this;show w8.cell? ⟨g,0+i*1+0,none⟩=some (.int .u16 (Uq ns p)[i]);rw[e,(Om:0+i*1+0=i)];exact this
theorem Zcb(ws:List GWord)(k:Nat)(hk:k<ws.length):Qt ws (k+1)=Qt ws k++[Uq (Z8 ws k) ws[k].pos]:=by
 show _++[Uq _ (ws.getD k default).pos]=_;rw[List.getD_eq_getElem?_getD,Ge hk];rfl
theorem Nv(ws:List GWord)(k:Nat)(hk:k<ws.length):Z8 ws (k+1)=Wa (Z8 ws k) ws[k].pos:=by
 show Wa _ (ws.getD k default).pos=_;rw[List.getD_eq_getElem?_getD,Ge hk];rfl
theorem Zcp(ws:List GWord)(k:Nat)(hk:k<ws.length):Zal (ws.take (k+1))=Zal (ws.take k)++[.string ws[k].surface]:=by
 rw[List.take_succ_eq_append_getElem hk];simp only[Zal,List.map_append,List.map_cons,List.map_nil]
theorem Zgd(ws:List GWord)(k:Nat)(hk:k<ws.length):(ws.take (k+1)).map GWord.contents=(ws.take k).map GWord.contents++[ws[k].contents]:=by
 rw[List.take_succ_eq_append_getElem hk];simp only[List.map_append,List.map_cons,List.map_nil]
end
end Go.Proofs.YtlfoalomaofejaaGreatDoor
section
namespace SS
variable{α:Type}{lt:α->α->Bool}
theorem Zd4(h:Go.Sort.SWO lt)(x:α):∀ l:List α,l.Pairwise (λa b=>lt b a=false)->(To lt x l).Pairwise (λa b=>lt b a=false)
 | [],_=>by simp[To]
 | y::l,hp=>by
  rw[List.pairwise_cons]at hp;unfold To
  split
  next c =>
   rw[List.pairwise_cons];refine⟨λz hz=>?_,by rw[List.pairwise_cons];exact hp⟩
   cases hq:lt z x with
   | false=>rfl
   | true =>
    have t:=h.trans _ _ _ hq c;rcases List.mem_cons.1 hz with rfl|hz
    ·rw[h.irrefl]at t;cases t
    ·rw[hp.1 z hz]at t;cases t
  next c =>
   rw[List.pairwise_cons];refine⟨λz hz=>?_,Zd4 h x l hp.2⟩;rcases List.mem_cons.1 ((Rx lt x l).mem_iff.1 hz) with rfl|hz
   ·simpa using c
   ·exact hp.1 z hz
theorem Zhd(h:Go.Sort.SWO lt)(l:List α):(Z6 lt l).Pairwise (λa b=>lt b a=false):=by
 have:∀ (l acc:List α),acc.Pairwise (λa b=>lt b a=false)->(l.foldl (λacc x=>To lt x acc) acc).Pairwise (λa b=>lt b a=false):=by
  intro l
  induction l with
  | nil=>intro acc h1;exact h1
  | cons x l ih=>intro acc h1;exact ih _ (Zd4 h x acc h1)
 exact this l [] .nil
end SS
namespace Go.Proofs.YtlfoalomaofejaaGreatDoor
open Go.RowKit DT SS TR
theorem O4:∀ a b:List UInt8,¬ (Lib.compareBytes b a<0)->lex a b=true
 | [],_,_=>by simp[lex]
 | a::l,[],h=>by simp[Lib.compareBytes]at h
 | a::l,b::m,h=>by
  unfold Lib.compareBytes at h;unfold lex
  split at h
  ·exact absurd (by decide) h
  next h1 =>
   split at h
   next h2 =>
    simp[h2]
   next h2 =>
    have h3:¬ b.toNat<a.toNat:=h1;have h4:¬ a.toNat<b.toNat:=h2;have e:a=b:=UInt8.toNat_inj.1 Om;have:=O4 l m h;simp[e,this]
theorem Of(l:List GWord):Asc ((Z6 Vu l).map GWord.surface):=by
 refine List.pairwise_map.2 ((Zhd K9 l).imp (λ{a b} h=>O4 _ _ ?_));simpa [Vu,Vm] using h
theorem Y4{s:ByteArray}(h:Ws s=true):(0:UInt8) ∉ s.data.toList/\s≠ByteArray.empty/\Lib.validD s.data.toList=true:=by
 simp only[Ws,Bool.and_eq_true,decide_eq_true_eq,Bool.not_eq_true',List.isEmpty_eq_false_iff]at h;exact⟨h.1.1,λe=>h.1.2 (by rw[e];rfl),h.2⟩
theorem Ia(ws:List ByteArray)(v:Value)(n:Nat)(w:World)(hn:ws.length=n)(h:w.ownsRow 0 9 1 v n (ws.map Value.string))(hasc:Asc ws)(hne:∀ x∈ws,x≠ByteArray.empty)(hlen:ws.length<=10000)(hz:∀ x∈ws,(0:UInt8) ∉ x.data.toList)(hv:R8 ws<=50000) :
  Calls Tryz.prog 184 #[v] w λe w'=>Zf w w'/\∃ g n mb,e=.returned (.tuple #[.agg #[.slice (some ⟨g,0,none⟩) n n,.map (some mb)],.nilIface])/\w.heap.size<=g/\w.heap.size<=mb/\U5 w' g n mb ws:=by
 subst hn;rcases Nat.eq_zero_or_pos ws.length with h0|h0
 ·obtain⟨A,c,rfl⟩:=Zl h;have hw:ws=[]:=List.eq_nil_of_length_eq_zero h0;subst hw;exact index_none A c w
 ·rcases id h.2 with ⟨_,e⟩|⟨g,cap,cur,rfl,_⟩
  ·omega
  ·exact Zf2 ws g 0 cap w (λj hj=>by
    have:=h.cells (g:=g) rfl j (.string ws[j]) (by simp[hj]);rw[Addr.add_lit]at this
    exact this) hasc hne h0 hlen hz hv
theorem Zlh:(Tryz.prog.info? 176).map (λi=>(i.zero,i.size,i.bytes))=some (some (.int .i16 0),1,2):=Kr
theorem Gw:(Tryz.prog.info? 4).map (λi=>(i.zero,i.size,i.bytes))=some (some (.bool false),1,1):=Kr
theorem Za8(cs:List Int)(k:Nat)(hk:k<cs.length):Wm (cs.take (k+1))=Wm (cs.take k)++[.int .i16 cs[k]]:=by
 rw[List.take_succ_eq_append_getElem hk];simp only[Wm,List.map_append,List.map_cons,List.map_nil]
theorem J7{α:Type}(f:α->Value)(cs:List α)(k:Nat)(hk:k<cs.length):(cs.take (k+1)).map f=(cs.take k).map f++[f cs[k]]:=by
 rw[List.take_succ_eq_append_getElem hk];simp only[List.map_append,List.map_cons,List.map_nil]
theorem Bx{w:World}{b n:Nat}{t:TypeId}{f f':Nat->Value}(h:w.rowIs b t n f)(e:∀ i,i<n->f i=f' i):w.rowIs b t n f':=by
 obtain⟨c,a,s,h⟩:=h;exact⟨c,a,s,λi hi=>by rw[h i hi,e i hi]⟩
theorem Zh8{w:World}{b:Nat}{t:TypeId}{ns:List ByteArray}{f:Nat->Value}(h:w.rowIs b t (ns.length+1) f)(h0:f 0=.string ⟨#[]⟩)(h1:∀ (j:Nat) (s:ByteArray),ns[j]?=some s->f (j+1)=.string s):w.rowIs b t (ns.length+1) (Zag ns):=by
 refine Bx h (λi hi=>?_)
 cases i with
 | zero=>rw[h0];rfl
 | succ j =>
  have hj:j<ns.length:=Om
  rw[h1 j ns[j] (by rw[Ge hj])];simp[Zag,hj]
end Go.Proofs.YtlfoalomaofejaaGreatDoor
end
namespace Go.Proofs.YtlfoalomaofejaaGreatDoor
section
open Go
section
variable{P:Program}{ops:Array Oper}{Q:Exit->Act->World->Prop}{S:World->Prop}{z:Nat}
def Ms(P:Program)(ops:Array Oper)(Q:Exit->Act->World->Prop)(S:World->Prop)(z:Nat):Nat->Array Bool->Act->World->Prop
 | 0,listed,a,w=>Region.ready .any ops listed=[]/\Q .normal a w
 | fuel+1,listed,a,w =>
  (Region.ready .any ops listed=[]->Q .normal a w) /\
  ∀ i∈Region.ready .any ops listed,wpOp P ops Q i (λa' w'=>(i≠z->S w')/\Ms P ops Q S z fuel (listed.setIfInBounds i true) a' w') a w
theorem Kz:∀ (fuel:Nat) (listed:Array Bool) (a:Act) (w:World),Ms P ops Q S z fuel listed a w->wpAny P .any ops Q fuel listed a w
 | 0,_,_,_,h=>h
 | fuel+1,_,_,_,h=>⟨h.1,λi hi=>wpOp_mono (λa' w' h'=>Kz fuel _ a' w' h'.2) (h.2 i hi)⟩
theorem Ft{i:Nat}{oi:Oper}{v:Value}(hi:ops[i]?=some oi)(hiz:i<z)(hz:z<ops.size)(hs:Region.sinkB .any ops z=true)(hc:Region.chainB .any ops z=true)(hsel:∀ (j:Nat) (o:Oper) cs b,ops[j]?=some o->o.op ≠ .select cs b)
  (hQ:∀ c a w,Q (.panic c) (a.put oi.dst v) w->Q (.panic c) a w) :
  ∀ (fuel:Nat) (listed:Array Bool) (a:Act) (w:World),HeadInv .any ops z listed ->
   (∀ j oj,ops[j]?=some oj->j≠i->listed.getD j true=false->(∀ e∈oj.after,Region.binds .any e=true->e.on≠i)->oi.apart ops oj=true) ->
   i∈Region.ready .any ops listed->YieldsIf P ops S oi v a->S w ->
   Ms P ops Q S z fuel (listed.setIfInBounds i true) (a.put oi.dst v) w->Ms P ops Q S z (fuel+1) listed a w:=by
 intro fuel
 induction fuel with
 | zero =>
  intro listed a w _ _ hr hy hS H;refine⟨λh=>(by rw[h]at hr;cases hr),λj hj=>?_⟩;by_cases hji:j=i
  ·subst hji;exact hy.wpOp hi hS ⟨λ_=>hS,H⟩
  ·have:=ready_mono hj hji;rw[H.1]at this;cases this
 | succ fuel ih =>
  intro listed a w inv hfree hr hy hS H;refine⟨λh=>(by rw[h]at hr;cases hr),λj hj=>?_⟩;by_cases hji:j=i
  ·subst hji;exact hy.wpOp hi hS ⟨λ_=>hS,H⟩
  ·have h1:=H.2 j (ready_mono hj hji);have hiun:listed.getD i true=false:=(mem_ready.1 hr).1
   have hjz:j<z:=by
    rcases Nat.lt_or_ge j z with q|q
    ·exact q
    ·exact absurd hj (tail_waits hs hc hz inv _ i rfl hiz hiun j q)
   obtain⟨hjun,oj,hoj,hall⟩:=mem_ready.1 hj
   have hnot:∀ e∈oj.after,Region.binds .any e=true->e.on≠i:=λe he hb heq=>by
    have h1:=hall e he hb;have h0:=(mem_ready.1 hr).1;rw[heq]at h1;rcases Nat.lt_or_ge i listed.size with h'|h'
    ·simp[h']at h0 h1;rw[h0]at h1;cases h1
    ·simp[Array.getElem?_eq_none h']at h1
   have h2:=wpOp_putIf hoj (hfree j oj hoj hji hjun hnot) (λcs b=>hsel i oi cs b hi) (λcs b=>hsel j oj cs b hoj) hQ hy h1
   have hfree':∀ k ok,ops[k]?=some ok->k≠i->(listed.setIfInBounds j true).getD k true=false ->
     (∀ e∈ok.after,Region.binds .any e=true->e.on≠i)->oi.apart ops ok=true:=λk ok hk hki hun hno=>by
    refine hfree k ok hk hki ?_ hno;by_cases hjk:j=k
    ·subst hjk;exact hjun
    ·rw[getD_set_ne true hjk]at hun;exact hun
   refine wpOp_mono (λa' w' h3=>⟨h3.2.1,ih (listed.setIfInBounds j true) a' w' (inv.set hj hjz) hfree' (ready_mono hr (Ne.symm hji)) h3.1 (h3.2.1 Om) ?_⟩) h2;rw[Array.setIfInBounds_comm _ _ hji];exact h3.2.2
def WZ(P:Program)(ops:Array Oper)(Q:Exit->Act->World->Prop)(S:World->Prop)(z fuel:Nat)(listed:Array Bool)(a:Act)(w:World):Prop:=HeadInv .any ops z listed->Ms P ops Q S z fuel listed a w
def zOk(ops:Array Oper)(z:Nat)(listed:Array Bool)(i:Nat):Bool:=Region.noSelect ops&&decide (i<z)&&decide (z<ops.size)&&Region.sinkB .any ops z&&Region.chainB .any ops z&&Region.free .any ops listed i&&(Region.ready .any ops listed).contains i
theorem WZ.take{i:Nat}{oi:Oper}{v:Value}{dst:Option Tmp}{fuel:Nat}{listed:Array Bool}{a:Act}{w:World}(hi:ops[i]?=some oi)(hd:oi.dst=dst)(hk:zOk ops z listed i=true)
  (hQ:∀ c a w,Q (.panic c) (a.put dst v) w->Q (.panic c) a w) (hy:YieldsIf P ops S oi v a) (hS:S w)
  (h:WZ P ops Q S z fuel (listed.setIfInBounds i true) (a.put dst v) w):WZ P ops Q S z (fuel+1) listed a w:=by
 subst hd;simp only[zOk,Bool.and_eq_true,decide_eq_true_eq]at hk;obtain⟨⟨⟨⟨⟨⟨k1,k2⟩,k3⟩,k4⟩,k5⟩,k6⟩,k7⟩:=hk;intro inv;have hr:i∈Region.ready .any ops listed:=by simpa using k7
 exact Ft hi k2 k3 k4 k5 (Region.noSelect_spec k1) hQ fuel listed a w inv (Region.free_spec hi k6) hr hy hS (h (inv.set hr k2))
theorem WZ.one{i:Nat}{oi:Oper}{fuel:Nat}{listed:Array Bool}{a:Act}{w:World}(hi:ops[i]?=some oi)(hr:Region.ready .any ops listed=[i])(hz:i<z)
  (h:∀ K':Act->World->Prop,Shut (∀ a w,S w->(S w->WZ P ops Q S z fuel (listed.setIfInBounds i true) a w)->K' a w)->if Region.wanted oi (yielded ops a.tmps)=true then Oper.wp P oi a w K' Q else K' (a.put oi.dst undef) w):WZ P ops Q S z (fuel+1) listed a w:=by
 intro inv;have him:i∈Region.ready .any ops listed:=by rw[hr];simp
 refine⟨λq=>(by rw[hr]at q;cases q),λj hj=>?_⟩;have hj':j=i:=by rw[hr]at hj;simpa using hj
 subst hj';exact wpOp_step hi (λK' hK=>h K' (λa w hS hW=>hK a w ⟨λ_=>hS,hW hS (inv.set him hz)⟩))
theorem WZ.last{oi:Oper}{listed:Array Bool}{a:Act}{w:World}(hi:ops[z]?=some oi)(hr:Region.ready .any ops listed=[z])(hr2:Region.ready .any ops (listed.setIfInBounds z true)=[])
  (h:∀ K':Act->World->Prop,Shut (∀ a w,Q .normal a w->K' a w)->if Region.wanted oi (yielded ops a.tmps)=true then Oper.wp P oi a w K' Q else K' (a.put oi.dst undef) w):WZ P ops Q S z 1 listed a w:=by
 intro inv;refine⟨λq=>(by rw[hr]at q;cases q),λj hj=>?_⟩;have hj':j=z:=by rw[hr]at hj;simpa using hj
 subst hj';exact wpOp_step hi (λK' hK=>h K' (λa w hq=>hK a w ⟨λe=>absurd rfl e,hr2,hq⟩))
@[reducible] def WL (_todo:List (Nat×Tmp)) (P:Program) (ops:Array Oper) (Q:Exit->Act->World->Prop) (S:World->Prop) (z fuel:Nat) (listed:Array Bool) (a:Act) (w:World):Prop:=WZ P ops Q S z fuel listed a w
theorem WL.tk{i:Nat}{d:Tmp}{l:List (Nat×Tmp)}{oi:Oper}{v:Value}{fuel:Nat}{listed:Array Bool}{a:Act}{w:World}(hi:ops[i]?=some oi)(hd:oi.dst=some d)(hk:zOk ops z listed i=true)
  (hQ:∀ c a w,Q (.panic c) (a.put (some d) v) w->Q (.panic c) a w) (hy:YieldsIf P ops S oi v a) (hS:S w)
  (h:WL l P ops Q S z fuel (listed.setIfInBounds i true) (a.put (some d) v) w):WL ((i,d)::l) P ops Q S z (fuel+1) listed a w:=WZ.take hi hd hk hQ hy hS h
theorem WL.go(todo:List (Nat×Tmp)){fuel:Nat}{listed:Array Bool}{a:Act}{w:World}(h:WL todo P ops Q S z fuel listed a w):WZ P ops Q S z fuel listed a w:=h
theorem Ya{id:Nat}{l:List Oper}{a:Act}{w:World}(z n:Nat)(ls:Array Bool)(S:World->Prop)(hm:P.follows .mixedOrders=true)(hn:l.length=n)(hl:Array.replicate n false=ls)(hS:S w.drew)
  (h:S w.drew->WZ P l.toArray Q S z n ls a w.drew):(Code.region id l.toArray true).wp P Q a w:=by
 refine wp_region_any hm ?_
 have inv0:HeadInv .any l.toArray z (Array.replicate l.toArray.size false) :=
  ⟨by simp,λj oj _ hl=>(by rw[getD_replicate_false]at hl;cases hl),λt _ ht=>getD_in (by simpa using ht) (getD_replicate_false _ _)⟩
 have H:=h hS;subst hn;subst hl;have:=Kz _ _ _ _ (H inv0);simpa using this
end
end
section
open Go.RowKit
theorem Zad(w:World):Calls Tryz.prog 155 #[] w λe w'=>e=.returned (.func (.func 189) #[] #[])/\w'=w:=by
 go_enter Tryz.func155,Tryz.ntmps155
 go_wp2_with fail
 first|go_ret|go_ret2
 exact⟨rfl,rfl⟩
theorem Zfu(t:Nat)(u:Value)(w:World)(h:w.cell? ⟨t,2,none⟩=some u)(hf:w.frozen? ⟨t,2,none⟩=false):Calls Tryz.prog 189 #[.pointer (some ⟨t,0,none⟩)] w λe w'=>e=.returned .nilIface/\w'=w.setCell ⟨t,2,none⟩ (.bool true):=by
 go_enter Tryz.func189,Tryz.ntmps189
 go_wp2_with fail
 first|go_ret|go_ret2
 exact⟨rfl,rfl⟩
theorem Cy(a:Option Addr)(w:World):Calls Tryz.prog 154 #[.pointer a] w λe w'=>e=.returned (.func (.func 188) #[] #[.pointer (some ⟨w.heap.size,0,none⟩)])/\w'.cell? ⟨w.heap.size,0,none⟩=some (.pointer a)/\Zf w w':=by
 go_enter Tryz.func154,Tryz.ntmps154
 go_wp2_with fail
 first|go_ret|go_ret2
 exact⟨rfl,by simp,(Fl _).alloc _⟩
theorem Fv(t b:Nat)(a:Addr)(u:Value)(w:World)(h:w.cell? ⟨t,1,none⟩=some u)(hf:w.frozen? ⟨t,1,none⟩=false)(hb:w.cell? ⟨b,0,none⟩=some (.pointer (some a))) :
  Calls Tryz.prog 188 #[.pointer (some ⟨t,0,none⟩),.pointer (some ⟨b,0,none⟩)] w λe w'=>e=.returned .nilIface/\w'=w.setCell ⟨t,1,none⟩ (.pointer (some a)):=by
 go_enter Tryz.func188,Tryz.ntmps188
 go_wp2_with fail
 first|go_ret|go_ret2
 exact⟨rfl,rfl⟩
def Zel(f:Value)(t:Nat)(s s':Array Value)(w0:World):Prop :=
 ∃ g cb,f=.func (.func g) #[] cb/\(∀ args w,(callFunc g args).run Tryz.prog w=.ok (.enter g args) w)/\∀ w:World,Fr (λj=>j=t) w0 w->w.heap[t]?=some (.cells s 291 (0,0)) ->
  Calls Tryz.prog g (#[.pointer (some ⟨t,0,none⟩)]++cb) w λe w'=>e=.returned .nilIface/\w'.heap[t]?=some (.cells s' 291 (0,0))/\Fr (λj=>j=t) w w'
theorem Zac{w:World}{b:Nat}{cs:Array Value}{T:TypeId}(h:w.heap[b]?=some (.cells cs T (0,0)))(j:Nat)(u:Value)(hj:cs[j]?=some u):w.cell? ⟨b,j,none⟩=some u/\w.frozen? ⟨b,j,none⟩=false:=by
 simp only[World.cell?,World.frozen?,h];exact⟨hj,by simp⟩
theorem Zdw(t:Nat)(a b c:Value)(w0:World):Zel (.func (.func 189) #[] #[]) t #[a,b,c] #[a,b,.bool true] w0:=by
 refine⟨_,_,rfl,λ_ _=>Kr,λw _ h=>?_⟩;obtain⟨h1,h2⟩:=Zac h 2 c rfl;refine (Zfu t c w h1 h2).mono ?_;rintro e w' ⟨rfl,rfl⟩;exact⟨rfl,Yk h 2 _,(Fr.refl (λj=>j=t) w).setCell ⟨t,2,none⟩ _ (λ_=>rfl)⟩
end
section
open Go.RowKit DT
abbrev Y3(kd:Nat)(u:Option Addr)(om:Bool):Array Value:=#[.pointer (some ⟨kd,0,none⟩),.pointer u,.bool om]
theorem Zbu(t b:Nat)(a0:Addr)(a c:Value)(u:Value)(w0:World)(hb:w0.cell? ⟨b,0,none⟩=some (.pointer (some a0)))(ht:b≠t):Zel (.func (.func 188) #[] #[.pointer (some ⟨b,0,none⟩)]) t #[a,u,c] #[a,.pointer (some a0),c] w0:=by
 refine⟨_,_,rfl,λ_ _=>Kr,λw hf h=>?_⟩;obtain⟨h1,h2⟩:=Zac h 1 u rfl;refine (Fv t b a0 u w h1 h2 (hf.cell hb ht)).mono ?_;rintro e w' ⟨rfl,rfl⟩;exact⟨rfl,Yk h 1 _,(Fr.refl (λj=>j=t) w).setCell ⟨t,1,none⟩ _ (λ_=>rfl)⟩
theorem Qa(kd n c:Nat)(A:Option Addr)(fs:List Value)(st:Nat->Array Value)(w:World)(hn:fs.length=n)(hn2:n<=1000)(hc:∀ j (h:j<fs.length),∃ b o,A=some ⟨b,o,none⟩/\b<w.heap.size/\w.cell? ⟨b,o+j,none⟩=some fs[j])(h0:st 0=Y3 kd none false)(hok:∀ j (h:j<fs.length),Zel fs[j] w.heap.size (st j) (st (j+1)) (w.alloc (.cells (Y3 kd none false) 291))) :
  Calls Tryz.prog 156 #[.pointer (some ⟨kd,0,none⟩),.slice A n c] w λe w'=>e=.returned (.tuple #[.pointer (some ⟨w.heap.size,0,none⟩),.nilIface])/\w'.heap[w.heap.size]?=some (.cells (st n) 291 (0,0))/\Zf w w':=by
 have HC:=Hd (Ai1 hc (Ai1 h0 (Ai1 hok hn)));clear hc h0 hok;go_enter Tryz.func156,Tryz.ntmps156
 go_wp2_with fail
 obtain⟨t,ht⟩:∃ t,t=w.heap.size:=⟨_,rfl⟩;rw[<- ht];have HT:=Hd ht
 go_loopg [18] n (λg1 vi wr=>∃ (k:Nat),vi=.int .i64 k/\k<=n/\n<=k+g1/\Hid (wr.heap[t]?=some (.cells (st k) 291 (0,0))/\Fr (λj=>j=t) (w.alloc (.cells (Y3 kd none false) 291)) wr))
 case atStart=>exact⟨0,rfl,Om,Om,by rw[HC.out.2.1,ht];exact alloc_at _ _,Fl _⟩
 case round =>
  clear ht;obtain⟨k,rfl,hk,hg,HR⟩:=hrel;by_cases hlt:k<n
  ·have hltz:(k:Int)<n:=Om;have hkl:k<fs.length:=by rw[HC.out.2.2.2];exact hlt
   obtain⟨b,o,rfl,hbl,hcell⟩:=HC.out.1 k hkl;have hok:=HC.out.2.2.1 k hkl;rw[<- HT.out]at hok hbl;obtain⟨g,cb,hf,eg,hcall⟩:=hok;rw[hf]at hcell;have hcell:=HR.out.2.cell (((Fe w).alloc _).cell hcell id) ((Om:¬ b=t));have C1:=hcall wr HR.out.2 HR.out.1;have lb:=lt_of_cell hcell;have HC1:=Hd C1;clear hcall hbl hf C1;go_wp2_with (first|(refine HC1.out.mono ?_;rintro e w5 ⟨rfl,h1,h2⟩;have H5:=Hd (Ai1 h1 h2);clear h1 h2)|fail)
   go_roundg (n-(k+1))
   case measure=>omega
   case rel=>exact⟨k+1,by go_num,Om,Om,H5.out.1,HR.out.2.then H5.out.2⟩
  ·obtain rfl:k=n:=Om
   go_wp2_with fail
   first|go_ret|go_ret2
   rw[<- HT.out];refine⟨rfl,HR.out.1,?_⟩;exact ((Fe w).alloc _).trans HR.out.2 (λj hj e=>by have:=HT.out;omega)
end
section
open Go.RowKit DT SS TR
theorem Sl{w:World}{T:TypeId}{k n:Nat}{v:Value}{xs:List Value}(h:w.ownsRow 0 T k v n xs)(j:Nat)(hj:j<n*k):∃ g c,v=.slice (some ⟨g,0,none⟩) n c/\w.cell? ⟨g,j,none⟩=xs[j]? /\ v.ownBlock=some g:=by
 rcases id h.2 with ⟨_,e⟩|⟨g,cap,cur,rfl,_⟩
 ·subst e;simp at hj
 ·exact⟨g,cap,rfl,h.cellAt j hj,rfl⟩
theorem Db{α:Type}(f g h:α->Int):∀ (l:List α) (i:Nat) (hi:i<l.length),(l.flatMap λu=>M9 (f u) (g u) (h u))[i*3]?=some (.int .i16 (f l[i]))/\(l.flatMap λu=>M9 (f u) (g u) (h u))[i*3+1]?=some (.int .i16 (g l[i]))/\(l.flatMap λu=>M9 (f u) (g u) (h u))[i*3+2]?=some (.int .i16 (h l[i]))
 | x::l,0,_=>⟨rfl,rfl,rfl⟩
 | x::l,i+1,hi=>by
  have:=Db f g h l i (by simpa using hi);have e:(x::l).flatMap (λu=>M9 (f u) (g u) (h u))=.int .i16 (f x) :: .int .i16 (g x) :: .int .i16 (h x)::l.flatMap (λu=>M9 (f u) (g u) (h u)):=rfl;rw[e,(Om:(i+1)*3=i*3+1+1+1),(Om:i*3+1+1+1+1=(i*3+1)+1+1+1),(Om:i*3+1+1+1+2=(i*3+2)+1+1+1)];simp only[List.getElem?_cons_succ,List.getElem_cons_succ];exact this
variable{d:Zg}{kd H U:Nat}{w:World}
theorem Co:(Zu d).length=d.words.length:=(Zy _ _).length_eq
theorem Wj:(Ze d).length=d.unknown.length:=(Zy _ _).length_eq
theorem Zx.lt(h:Zx d kd H U w):H<=kd/\kd<U/\U<=w.heap.size:=by
 obtain⟨mm,cc,mp,gl,g,n,mb,ko,mi,md,mu,vk,v0,v1,v4,v7,v10,v12,v13,u0,u4,h⟩:=h;obtain⟨F,h1,h2⟩:=h.get 0 (by simp[Zq,Z4,Zn]);have:=h2 kd h1.2;exact⟨this.1,this.2,h.1⟩
theorem Zx.known(h:Zx d kd H U w)(i:Nat)(hi:i<(Zu d).length):∃ gm c,w.cell? ⟨kd,0,none⟩=some (.slice (some ⟨gm,0,none⟩) (Zu d).length c)/\(H<=gm/\gm<U) /\
  w.cell? ⟨gm,i*3,none⟩=some (.int .i16 (Zu d)[i].left)/\w.cell? ⟨gm,i*3+1,none⟩=some (.int .i16 (Zu d)[i].right)/\w.cell? ⟨gm,i*3+2,none⟩=some (.int .i16 (Zu d)[i].weight):=by
 obtain⟨mm,cc,mp,gl,g,n,mb,ko,mi,md,mu,vk,v0,v1,v4,v7,v10,v12,v13,u0,u4,h⟩:=h;obtain⟨F0,h0,_⟩:=h.get 0 (by simp[Zq,Z4,Zn]);obtain⟨F,h1,h2⟩:=h.get 5 (by simp[Zq,Z4,Zn]);have q:=h1.1;obtain⟨gm,c,e,_,hb⟩:=Sl q (i*3) Om
 have e0:=λj (hj:j<(Zu d).length*3)=>(show w.cell? ⟨gm,j,none⟩=(Zes (Zu d))[j]? by
  obtain⟨gm',c',e',h',_⟩:=Sl q j hj;rw[e]at e';simp only[Value.slice.injEq,Option.some.injEq,Addr.mk.injEq]at e'
  rw[e'.1.1];exact h')
 obtain⟨m0,m1,m2⟩:=Db GWord.left GWord.right GWord.weight (Zu d) i hi;refine⟨gm,c,by rw[<- e];exact Zb h0.1 0 _ rfl,h2 gm (h1.2 gm hb),?_,?_,?_⟩
 ·rw[e0 _ Om];exact m0
 ·rw[e0 _ Om];exact m1
 ·rw[e0 _ Om];exact m2
theorem Zx.unk(h:Zx d kd H U w)(i:Nat)(hi:i<(Ze d).length):∃ gm c,w.cell? ⟨kd,14,none⟩=some (.slice (some ⟨gm,0,none⟩) (Ze d).length c)/\(H<=gm/\gm<U) /\
  w.cell? ⟨gm,i*3,none⟩=some (.int .i16 (Ze d)[i].left)/\w.cell? ⟨gm,i*3+1,none⟩=some (.int .i16 (Ze d)[i].right)/\w.cell? ⟨gm,i*3+2,none⟩=some (.int .i16 (Ze d)[i].weight):=by
 obtain⟨mm,cc,mp,gl,g,n,mb,ko,mi,md,mu,vk,v0,v1,v4,v7,v10,v12,v13,u0,u4,h⟩:=h;obtain⟨F0,h0,_⟩:=h.get 0 (by simp[Zq,Z4,Zn]);obtain⟨F,h1,h2⟩:=h.get 15 (by simp[Zq,Z4,Zn]);have hl:=Wj (d:=d);have q:=h1.1;rw[<- hl,List.take_length]at q;obtain⟨gm,c,e,_,hb⟩:=Sl q (i*3) Om
 have e0:=λj (hj:j<(Ze d).length*3)=>(show w.cell? ⟨gm,j,none⟩=(Jf (Ze d))[j]? by
  obtain⟨gm',c',e',h',_⟩:=Sl q j hj;rw[e]at e';simp only[Value.slice.injEq,Option.some.injEq,Addr.mk.injEq]at e'
  rw[e'.1.1];exact h')
 obtain⟨m0,m1,m2⟩:=Db GUnk.left GUnk.right GUnk.weight (Ze d) i hi;refine⟨gm,c,by rw[<- e];exact Zb h0.1 14 _ rfl,h2 gm (h1.2 gm hb),?_,?_,?_⟩
 ·rw[e0 _ Om];exact m0
 ·rw[e0 _ Om];exact m1
 ·rw[e0 _ Om];exact m2
theorem Zx.index(h:Zx d kd H U w):∃ g n mb,w.cell? ⟨kd,8,none⟩=some (.slice (some ⟨g,0,none⟩) n n)/\w.cell? ⟨kd,9,none⟩=some (.map (some mb))/\U5 w g n mb ((Zu d).map GWord.surface)/\(H<=g/\g<U)/\(H<=mb/\mb<U):=by
 obtain⟨mm,cc,mp,gl,g,n,mb,ko,mi,md,mu,vk,v0,v1,v4,v7,v10,v12,v13,u0,u4,h⟩:=h;obtain⟨F0,h0,_⟩:=h.get 0 (by simp[Zq,Z4,Zn]);obtain⟨F,h1,h2⟩:=h.get 10 (by simp[Zq,Z4,Zn]);exact⟨g,n,mb,Zb h0.1 8 _ rfl,Zb h0.1 9 _ rfl,h1.1,h2 g h1.2.1,h2 mb h1.2.2⟩
theorem Zx.cat(h:Zx d kd H U w):∃ cc,w.cell? ⟨kd,11,none⟩=some (.slice (some ⟨cc,0,none⟩) 65536 65536)/\∀ i,i<65536->w.cell? ⟨cc,i,none⟩=some (.int .u8 (U9 d.chars i)):=by
 obtain⟨mm,cc,mp,gl,g,n,mb,ko,mi,md,mu,vk,v0,v1,v4,v7,v10,v12,v13,u0,u4,h⟩:=h;obtain⟨F0,h0,_⟩:=h.get 0 (by simp[Zq,Z4,Zn]);obtain⟨F,h1,h2⟩:=h.get 2 (by simp[Zq,Z4,Zn]);exact⟨cc,Zb h0.1 11 _ rfl,λi hi=>h1.1.cell hi⟩
theorem Zx.invoke(h:Zx d kd H U w)(i:Nat)(hi:i<d.classes.length):∃ g c,w.cell? ⟨kd,12,none⟩=some (.slice (some ⟨g,0,none⟩) d.classes.length c)/\w.cell? ⟨g,i,none⟩=some (.bool d.classes[i].invoke):=by
 obtain⟨mm,cc,mp,gl,g,n,mb,ko,mi,md,mu,vk,v0,v1,v4,v7,v10,v12,v13,u0,u4,h⟩:=h;obtain⟨F0,h0,_⟩:=h.get 0 (by simp[Zq,Z4,Zn]);obtain⟨F,h1,h2⟩:=h.get 12 (by simp[Zq,Z4,Zn]);obtain⟨gm,c,e,h3,hb⟩:=Sl h1.1 i Om;exact⟨gm,c,by rw[<- e];exact Zb h0.1 12 _ rfl,by rw[h3];simp[hi]⟩
theorem Zx.group(h:Zx d kd H U w)(i:Nat)(hi:i<d.classes.length):∃ g c,w.cell? ⟨kd,13,none⟩=some (.slice (some ⟨g,0,none⟩) d.classes.length c)/\w.cell? ⟨g,i,none⟩=some (.bool d.classes[i].group):=by
 obtain⟨mm,cc,mp,gl,g,n,mb,ko,mi,md,mu,vk,v0,v1,v4,v7,v10,v12,v13,u0,u4,h⟩:=h;obtain⟨F0,h0,_⟩:=h.get 0 (by simp[Zq,Z4,Zn]);obtain⟨F,h1,h2⟩:=h.get 13 (by simp[Zq,Z4,Zn]);obtain⟨gm,c,e,h3,hb⟩:=Sl h1.1 i Om;exact⟨gm,c,by rw[<- e];exact Zb h0.1 13 _ rfl,by rw[h3];simp[hi]⟩
theorem Zx.maps(h:Zx d kd H U w):∃ mi md,w.cell? ⟨kd,15,none⟩=some (.map (some mi))/\w.cell? ⟨kd,16,none⟩=some (.map (some md))/\Zz Tg mi (Vv (Ze d)).1 w/\Zz Tg md (Vv (Ze d)).2 w:=by
 obtain⟨mm,cc,mp,gl,g,n,mb,ko,mi,md,mu,vk,v0,v1,v4,v7,v10,v12,v13,u0,u4,h⟩:=h;obtain⟨F0,h0,_⟩:=h.get 0 (by simp[Zq,Z4,Zn]);obtain⟨F,h1,h2⟩:=h.get 16 (by simp[Zq,Z4,Zn]);obtain⟨F',h1',_⟩:=h.get 17 (by simp[Zq,Z4,Zn]);have hl:=Wj (d:=d);have q:=h1.1;have q':=h1'.1;rw[<- hl]at q q';exact⟨mi,md,Zb h0.1 15 _ rfl,Zb h0.1 16 _ rfl,q,q'⟩
theorem Zx.conn(h:Zx d kd H U w):w.cell? ⟨kd,5,none⟩=some (.int .i64 d.rows)/\∀ i (hi:i<d.costs.length),∃ g c,w.cell? ⟨kd,7,none⟩=some (.slice (some ⟨g,0,none⟩) d.costs.length c)/\w.cell? ⟨g,i,none⟩=some (.int .i16 d.costs[i]):=by
 obtain⟨mm,cc,mp,gl,g,n,mb,ko,mi,md,mu,vk,v0,v1,v4,v7,v10,v12,v13,u0,u4,h⟩:=h;obtain⟨F0,h0,_⟩:=h.get 0 (by simp[Zq,Z4,Zn]);obtain⟨F,h1,h2⟩:=h.get 9 (by simp[Zq,Z4,Zn]);refine⟨Zb h0.1 5 _ rfl,λi hi=>?_⟩;obtain⟨gm,c,e,h3,hb⟩:=Sl h1.1 i Om;exact⟨gm,c,by rw[<- e];exact Zb h0.1 7 _ rfl,by rw[h3];simp[Wm,hi]⟩
end
section
open Go.RowKit DT SS TR LT
structure Zbq(d:Zg)(kd H U kl g R c bl br bq bi:Nat)(s:ByteArray)(k pos:Nat)(w:World):Prop where
 la:w.cell? ⟨bl,0,none⟩=some (.pointer (some ⟨kl,0,none⟩))
 rp:w.cell? ⟨br,0,none⟩=some (.int .i64 k)
 ps:w.cell? ⟨bq,0,none⟩=some (.int .i64 pos)
 inp:w.cell? ⟨bi,0,none⟩=some (.string s)
 list:w.cell? ⟨kl,2,none⟩=some (.slice (some ⟨g,0,none⟩) R c)
 dic:w.cell? ⟨kl,3,none⟩=some (.pointer (some ⟨kd,0,none⟩))
 dict:Zx d kd H U w
def Ko(U kl bl br bq bi:Nat)(j:Nat):Prop:=U<=j/\j≠kl/\j≠bl/\j≠br/\j≠bq/\j≠bi
theorem Zbq.keep{d:Zg}{kd H U kl g R c bl br bq bi:Nat}{s:ByteArray}{k pos:Nat}{w w':World}{S:Nat->Prop}(h:Zbq d kd H U kl g R c bl br bq bi s k pos w)(f:Fr S w w')(hS:∀ j,S j->Ko U kl bl br bq bi j):Zbq d kd H U kl g R c bl br bq bi s k pos w' :=
 ⟨f.cell h.la (λe=>(hS _ e).2.2.1 rfl),f.cell h.rp (λe=>(hS _ e).2.2.2.1 rfl),f.cell h.ps (λe=>(hS _ e).2.2.2.2.1 rfl),f.cell h.inp (λe=>(hS _ e).2.2.2.2.2 rfl),f.cell h.list (λe=>(hS _ e).2.1 rfl),f.cell h.dic (λe=>(hS _ e).2.1 rfl),h.dict.keep f (λb _ hb e=>by have:=(hS _ e).1;omega)⟩
def Mk(d:Zg)(cls:Nat)(id:Nat)(m:Wd):Prop :=
 (cls=3/\m=zeroM)\/(cls=1/\∃ h:id<(Zu d).length,m=⟨(Zu d)[id].left,(Zu d)[id].right,(Zu d)[id].weight⟩)\/(cls=2/\∃ h:id<(Ze d).length,m=⟨(Ze d)[id].left,(Ze d)[id].right,(Ze d)[id].weight⟩)
theorem J5{d:Zg}{kd H U kl cls id:Nat}{m:Wd}{w:World}(hr:Zm d=true)(h:Zx d kd H U w)(hk:w.cell? ⟨kl,3,none⟩=some (.pointer (some ⟨kd,0,none⟩)))(hm:Mk d cls id m):Zem w kl cls id m:=by
 have hdim:=Wu hr;rcases hm with ⟨rfl,rfl⟩|⟨rfl,hi,rfl⟩|⟨rfl,hi,rfl⟩
 ·exact .inl ⟨.inr rfl,rfl⟩
 ·obtain⟨gm,c,h1,_,h2,h3,h4⟩:=h.known id hi;have hb:=Te hr (Zu d)[id] ((Zy _ _).mem_iff.1 (List.getElem_mem hi));exact .inr ⟨kd,gm,_,c,id,hk,rfl,hi,.inl ⟨rfl,h1⟩,h2,h3,h4,by dsimp only;omega,by dsimp only;omega,hb.2.2.1⟩
 ·obtain⟨gm,c,h1,_,h2,h3,h4⟩:=h.unk id hi;have hb:=M2 hr (Ze d)[id] ((Zy _ _).mem_iff.1 (List.getElem_mem hi));exact .inr ⟨kd,gm,_,c,id,hk,rfl,hi,.inr ⟨rfl,h1⟩,h2,h3,h4,by dsimp only;omega,by dsimp only;omega,hb.2.2.2⟩
def Z7(s:ByteArray)(k pos cls:Nat)(mo:Nat->Wd)(L:List (Nat×Nat)):List Nd:=L.map λx=>Xi s k pos cls (mo x.1) x.1 x.2
def Kg(U kl bl br bq bi g R:Nat)(ns:List Nd)(O:Nat->Prop)(w:World):Prop :=
 ∃ vs nb,Ym w g R vs ns nb (λ_=>0) (λ_=>none)/\(∀ j,Yt g R vs j->Ko U kl bl br bq bi j)/\(∀ j,O j↔Yt g R vs j)/\∀ m,m<ns.length->U<=nb m
theorem Kg.keep{U kl bl br bq bi g R:Nat}{ns:List Nd}{O S:Nat->Prop}{w w':World}(h:Kg U kl bl br bq bi g R ns O w)(f:Fr S w w')(hS:∀ j,S j->¬ O j/\∀ vs nb,Ym w g R vs ns nb (λ_=>0) (λ_=>none)->∀ m,m<ns.length->nb m≠j):Kg U kl bl br bq bi g R ns O w':=by
 obtain⟨vs,nb,h1,h2,h3,h4⟩:=h;exact⟨vs,nb,h1.keep f (λj hj e=>(hS j e).1 ((h3 j).2 hj)) (λm hm e=>(hS _ e).2 vs nb h1 m hm rfl),h2,h3,h4⟩
theorem Kg.ext{U kl bl br bq bi g R:Nat}{ns:List Nd}{O:Nat->Prop}{w w':World}(h:Kg U kl bl br bq bi g R ns O w)(f:Zf w w'):Kg U kl bl br bq bi g R ns O w':=h.keep f (λj e=>e.elim)
def CbJ(d:Zg)(kd H U kl g R c bl br bq bi ba:Nat)(s:ByteArray)(k pos cls:Nat)(mo:Nat->Wd)(ns:List Nd)(L:List (Nat×Nat))(O:Nat->Prop)(m:Nat)(w:World):Prop :=
 Zbq d kd H U kl g R c bl br bq bi s k pos w/\(w.cell? ⟨ba,0,none⟩=some (.bool (decide (0<m)))/\w.frozen? ⟨ba,0,none⟩=false)/\∃ O',Kg U kl bl br bq bi g R (ns++Z7 s k pos cls mo (L.take m)) O' w/\¬ O' ba/\∀ j,O j↔(O' j\/j=ba)
theorem Zh6{w:World}{g R:Nat}{vs:Nat->Value}{ns:List Nd}{nb:Nat->Nat}{cost:Nat->Int}{prev:Nat->Option Nat}(h:Ym w g R vs ns nb cost prev){b:Nat}{x:Bool}(hb:w.cell? ⟨b,0,none⟩=some (.bool x))(m:Nat)(hm:m<ns.length):nb m≠b:=by
 intro e;have h1:=h.node m hm;rw[e]at h1;simp[World.cell?,h1,Xd]at hb
theorem Zbq.new{d:Zg}{kd H U kl g R c bl br bq bi:Nat}{s:ByteArray}{k pos:Nat}{w:World}(h:Zbq d kd H U kl g R c bl br bq bi s k pos w){j:Nat}(hj:w.heap.size<=j):Ko U kl bl br bq bi j:=by
 have l1:=lt_of_cell h.la;have l2:=lt_of_cell h.rp;have l3:=lt_of_cell h.ps;have l4:=lt_of_cell h.inp;have l5:=lt_of_cell h.list;have l6:=h.dict.lt;simp only at l1 l2 l3 l4 l5;exact⟨Om,Om,Om,Om,Om,Om⟩
theorem Me{d:Zg}{kd H U kl g R c bl br bq bi ba:Nat}{s:ByteArray}{k pos cls m:Nat}{mo:Nat->Wd}{ns:List Nd}{L:List (Nat×Nat)}{O O1:Nat->Prop}{w w2 wz:World}{vs vs':Nat->Value}{nb':Nat->Nat}{x0:Bool}
  (hF:Zbq d kd H U kl g R c bl br bq bi s k pos w) (h2:∀ j,Yt g R vs j->Ko U kl bl br bq bi j) (hno:¬ O1 ba) (hO:∀ j,O j↔(O1 j\/j=ba)) (h3:∀ j,O1 j↔Yt g R vs j) (hba:Ko U kl bl br bq bi ba) (hbl:ba<w.heap.size)
  (a1:Ym w2 g R vs' (ns++Z7 s k pos cls mo (L.take (m+1))) nb' (λ_=>0) (λ_=>none)) (a2:Fr (Yt g R vs) w w2) (a3:∀ j,Yt g R vs' j->Yt g R vs j\/w.heap.size<=j) (ha2:w2.cell? ⟨ba,0,none⟩=some (.bool x0)) (a4:∀ q,q<(ns++Z7 s k pos cls mo (L.take (m+1))).length->U<=nb' q)
  (hf:Fr (λj=>j=ba) w2 wz) (hz:wz.cell? ⟨ba,0,none⟩=some (.bool true)) (hfz:wz.frozen? ⟨ba,0,none⟩=false) :
  ∃ O',CbJ d kd H U kl g R c bl br bq bi ba s k pos cls mo ns L O' (m+1) wz/\(∀ b,O' b->O b\/w.heap.size<=b)/\Fr O w wz:=by
 have FZ:Fr O w wz:=(a2.mono (S':=O) (λj _ e=>(hO j).2 (.inl ((h3 j).2 e)))).then (hf.mono (λj _ e=>(hO j).2 (.inr e)));have hS:∀ j,O j->Ko U kl bl br bq bi j:=λj e=>((hO j).1 e).elim (λq=>h2 j ((h3 j).1 q)) (λq=>q▸hba)
 have hb':¬ Yt g R vs' ba:=λe=>(a3 ba e).elim (λq=>hno ((h3 ba).2 q)) (λq=>Om)
 refine⟨λj=>Yt g R vs' j\/j=ba,⟨hF.keep FZ hS,⟨by rw[hz];simp,hfz⟩,Yt g R vs',⟨vs',nb',a1.keep hf (λj hj e=>hb' (e▸hj)) (λq hq e=>Zh6 a1 ha2 q hq e),λj hj=>(a3 j hj).elim (h2 j) hF.new,λj=>Iff.rfl,a4⟩,hb',λj=>Iff.rfl⟩,?_,FZ⟩;rintro j (e|e)
 ·exact (a3 j e).imp (λq=>(hO j).2 (.inl ((h3 j).2 q))) id
 ·exact .inl ((hO j).2 (.inr e))
def Ix(d:Zg)(s:ByteArray)(k pos cls R:Nat)(mo:Nat->Wd)(L:List (Nat×Nat)):Prop :=
 ∀ x∈L,Mk d cls x.1 (mo x.1)/\pos+x.2<=s.size/\k+Lib.runeCount (s.extract pos (pos+x.2))<R/\x.1<=1000000
theorem Zlu(d:Zg)(hr:Zm d=true)(kd H U kl g R c bl br bq bi ba:Nat)(s:ByteArray)(k pos:Nat)(mo:Nat->Wd)(ns:List Nd)(L:List (Nat×Nat))(hL:Ix d s k pos 3 R mo L)(hR:R<=1000000)(hs:s.size<=1000000)(hn:ns.length+L.length<=1000000000)(hp:pos<=s.size)(hk:k<=1000000)
  (hba:Ko U kl bl br bq bi ba) (O:Nat->Prop) (m:Nat) (hm:m<L.length) (w:World) (h:CbJ d kd H U kl g R c bl br bq bi ba s k pos 3 mo ns L O m w) :
  Calls Tryz.prog 192 #[.int .i64 (L[m].1:Int),.int .i64 (L[m].2:Int),.pointer (some ⟨bl,0,none⟩),.pointer (some ⟨br,0,none⟩),.pointer (some ⟨bq,0,none⟩),.pointer (some ⟨bi,0,none⟩),.pointer (some ⟨ba,0,none⟩)] w λe w'=>e=.returned (.tuple #[])/\∃ O',CbJ d kd H U kl g R c bl br bq bi ba s k pos 3 mo ns L O' (m+1) w'/\(∀ b,O' b->O b\/w.heap.size<=b)/\Fr O w w':=by
 obtain⟨hF,⟨ha,hf⟩,O1,hla,hno,hO⟩:=h;obtain⟨hmo,hin,hfin,hid⟩:=hL L[m] (List.getElem_mem hm);obtain⟨vs,nb,h1,h2,h3,h4⟩:=id hla;have hkl:¬ Yt g R vs kl:=λe=>(h2 _ e).2.1 rfl
 have C1:∀ q,Calls Tryz.prog 190 #[.pointer (some ⟨kl,0,none⟩),.int .i64 k,.int .i64 (L[m].1:Int),.int .i64 pos,.int .i64 k,.int .i64 3,.string (s.extract pos (pos+L[m].2))] (w.drewN q) λe w'=>e=.returned (.tuple #[])/\∃ vs' nb',Ym w' g R vs' (ns++Z7 s k pos 3 mo (L.take (m+1))) nb' (λ_=>0) (λ_=>none)/\Fr (Yt g R vs) w w'/\(∀ j,Yt g R vs' j->Yt g R vs j\/w.heap.size<=j)/\∀ q,q<(ns++Z7 s k pos 3 mo (L.take (m+1))).length->U<=nb' q:=by
  intro q;have X:Zf w (w.drewN q):=(Fl w).drewN q;have hlen:(ns++Z7 s k pos 3 mo (L.take m)).length<=1000000000:=by simp[Z7];omega
  have hsz:(s.extract pos (pos+L[m].2)).size<=1000000:=by rw[ByteArray.size_extract];omega
  have e1:Z7 s k pos 3 mo (L.take (m+1))=Z7 s k pos 3 mo (L.take m)++[Xi s k pos 3 (mo L[m].1) L[m].1 L[m].2]:=by
   rw[List.take_succ_eq_append_getElem hm];simp only[Z7,List.map_append,List.map_cons,List.map_nil]
  refine (Us kl g R c vs (ns++Z7 s k pos 3 mo (L.take m)) nb (Xi s k pos 3 (mo L[m].1) L[m].1 L[m].2) k (w.drewN q) (X.cell hF.list id) hR (h1.ext X) hkl hlen (J5 hr (hF.dict.keep X (λ_ _ _=>id)) (X.cell hF.dic id) hmo) hsz rfl hfin ⟨by show pos<=1000000;omega,hk⟩).mono ?_;rintro e w' ⟨rfl,vs',nb',a1,a2,a3,a4,a5⟩;refine⟨rfl,vs',nb',?_,((X.mono (S':=Yt g R vs) (λ_ _ e=>e.elim)).then a2),λj e=>(a3 j e).imp id (λq=>q),λq hq=>?_⟩;rotate_left
  ·rw[e1,<- List.append_assoc,List.length_append,List.length_singleton]at hq;rcases Nat.lt_or_ge q (ns++Z7 s k pos 3 mo (L.take m)).length with z|z
   ·rw[a4 q z];exact h4 q z
   ·have ez:q=(ns++Z7 s k pos 3 mo (L.take m)).length:=Om;rw[ez];have a5':w.heap.size<=nb' (ns++Z7 s k pos 3 mo (L.take m)).length:=a5;have:=hF.dict.lt;omega
  rw[e1,<- List.append_assoc];exact a1
 have la:=hF.la;have rp:=hF.rp;have ps:=hF.ps;have inp:=hF.inp;have HH:=Hd (Ai1 hF (Ai1 h2 (Ai1 hno (Ai1 hO (Ai1 h3 hla)))));have C1:Hid _:=C1;obtain⟨x,hx⟩:∃ x,x=L[m].1:=⟨_,rfl⟩;obtain⟨l,hl⟩:∃ l,l=L[m].2:=⟨_,rfl⟩;rw[<- hx,<- hl]at C1⊢;rw[<- hl]at hin;have hsz:(s.size:Int)<=1000000:=Om
 have g1:(0:Int)<=(pos:Int)+(l:Int):=Om
 have g2:(pos:Int)<=(pos:Int)+(l:Int):=Om
 have g3:(pos:Int)+(l:Int)<=(s.size:Int):=Om
 have g4:((pos:Int)+(l:Int)).toNat=pos+l:=Om
 have hsum:IntKind.i64.wrap ((pos:Int)+(l:Int))=(pos:Int)+(l:Int):=by rw[IntKind.wrap_i64];omega
 have lbl:ba<w.heap.size:=lt_of_cell ha;clear hF h1 h2 h3 h4 hla hmo hfin hid hO hno hL hkl hx hl;go_enter Tryz.func192,Tryz.ntmps192
 go_upto_region 0 with fail
 go_still_tail 11,Kr
 change wpList _ _ _ _ _ w.drew;go_wp2_with (go_at_call 190;refine (C1.out 1).mono ?_;rintro e w2 ⟨rfl,vs',nb',a1,a2,a3,a4⟩;have HA:=Hd (Ai1 a1 (Ai1 a2 (Ai1 a3 a4)));have ha2:=a2.cell ha (λe=>HH.out.2.2.1 ((HH.out.2.2.2.2.1 _).2 e));have hf2:=(a2.frozen ha (λe=>HH.out.2.2.1 ((HH.out.2.2.2.2.1 _).2 e))).trans hf;clear a1 a2 a3 a4)
 all_goals go_end0
 all_goals obtain⟨hF,h2,hno,hO,h3,_⟩:=HH.out
 all_goals obtain⟨a1,a2,a3,a4⟩:=HA.out
 ·refine⟨rfl,Me hF h2 hno hO h3 hba lbl a1 a2 a3 ha2 a4 ((Fr.refl (λj=>j=ba) w2).setCell ⟨ba,0,none⟩ _ (λ_=>rfl)) ?_ ?_⟩
  ·exact World.cell?_setCell_same _ _ _ ha2
  ·rw[World.frozen?_setCell];exact hf2
 ·refine⟨rfl,Me hF h2 hno hO h3 hba lbl a1 a2 a3 ha2 a4 (Fl _) ?_ hf2⟩;rw[ha2];simpa using ‹(!decide (0<m))=false›
theorem Zlv(d:Zg)(hr:Zm d=true)(kd H U kl g R c bl br bq bi ba:Nat)(s:ByteArray)(k pos:Nat)(mo:Nat->Wd)(ns:List Nd)(L:List (Nat×Nat))(hL:Ix d s k pos 1 R mo L)(hR:R<=1000000)(hs:s.size<=1000000)(hn:ns.length+L.length<=1000000000)(hp:pos<=s.size)(hk:k<=1000000)
  (hba:Ko U kl bl br bq bi ba) (O:Nat->Prop) (m:Nat) (hm:m<L.length) (w:World) (h:CbJ d kd H U kl g R c bl br bq bi ba s k pos 1 mo ns L O m w) :
  Calls Tryz.prog 193 #[.int .i64 (L[m].1:Int),.int .i64 (L[m].2:Int),.pointer (some ⟨bl,0,none⟩),.pointer (some ⟨br,0,none⟩),.pointer (some ⟨bq,0,none⟩),.pointer (some ⟨bi,0,none⟩),.pointer (some ⟨ba,0,none⟩)] w λe w'=>e=.returned (.tuple #[])/\∃ O',CbJ d kd H U kl g R c bl br bq bi ba s k pos 1 mo ns L O' (m+1) w'/\(∀ b,O' b->O b\/w.heap.size<=b)/\Fr O w w':=by
 obtain⟨hF,⟨ha,hf⟩,O1,hla,hno,hO⟩:=h;obtain⟨hmo,hin,hfin,hid⟩:=hL L[m] (List.getElem_mem hm);obtain⟨vs,nb,h1,h2,h3,h4⟩:=id hla;have hkl:¬ Yt g R vs kl:=λe=>(h2 _ e).2.1 rfl
 have C1:∀ q,Calls Tryz.prog 190 #[.pointer (some ⟨kl,0,none⟩),.int .i64 k,.int .i64 (L[m].1:Int),.int .i64 pos,.int .i64 k,.int .i64 1,.string (s.extract pos (pos+L[m].2))] (w.drewN q) λe w'=>e=.returned (.tuple #[])/\∃ vs' nb',Ym w' g R vs' (ns++Z7 s k pos 1 mo (L.take (m+1))) nb' (λ_=>0) (λ_=>none)/\Fr (Yt g R vs) w w'/\(∀ j,Yt g R vs' j->Yt g R vs j\/w.heap.size<=j)/\∀ q,q<(ns++Z7 s k pos 1 mo (L.take (m+1))).length->U<=nb' q:=by
  intro q;have X:Zf w (w.drewN q):=(Fl w).drewN q;have hlen:(ns++Z7 s k pos 1 mo (L.take m)).length<=1000000000:=by simp[Z7];omega
  have hsz:(s.extract pos (pos+L[m].2)).size<=1000000:=by rw[ByteArray.size_extract];omega
  have e1:Z7 s k pos 1 mo (L.take (m+1))=Z7 s k pos 1 mo (L.take m)++[Xi s k pos 1 (mo L[m].1) L[m].1 L[m].2]:=by
   rw[List.take_succ_eq_append_getElem hm];simp only[Z7,List.map_append,List.map_cons,List.map_nil]
  refine (Us kl g R c vs (ns++Z7 s k pos 1 mo (L.take m)) nb (Xi s k pos 1 (mo L[m].1) L[m].1 L[m].2) k (w.drewN q) (X.cell hF.list id) hR (h1.ext X) hkl hlen (J5 hr (hF.dict.keep X (λ_ _ _=>id)) (X.cell hF.dic id) hmo) hsz rfl hfin ⟨by show pos<=1000000;omega,hk⟩).mono ?_;rintro e w' ⟨rfl,vs',nb',a1,a2,a3,a4,a5⟩;refine⟨rfl,vs',nb',?_,((X.mono (S':=Yt g R vs) (λ_ _ e=>e.elim)).then a2),λj e=>(a3 j e).imp id (λq=>q),λq hq=>?_⟩;rotate_left
  ·rw[e1,<- List.append_assoc,List.length_append,List.length_singleton]at hq;rcases Nat.lt_or_ge q (ns++Z7 s k pos 1 mo (L.take m)).length with z|z
   ·rw[a4 q z];exact h4 q z
   ·have ez:q=(ns++Z7 s k pos 1 mo (L.take m)).length:=Om;rw[ez];have a5':w.heap.size<=nb' (ns++Z7 s k pos 1 mo (L.take m)).length:=a5;have:=hF.dict.lt;omega
  rw[e1,<- List.append_assoc];exact a1
 have la:=hF.la;have rp:=hF.rp;have ps:=hF.ps;have inp:=hF.inp;have HH:=Hd (Ai1 hF (Ai1 h2 (Ai1 hno (Ai1 hO (Ai1 h3 hla)))));have C1:Hid _:=C1;obtain⟨x,hx⟩:∃ x,x=L[m].1:=⟨_,rfl⟩;obtain⟨l,hl⟩:∃ l,l=L[m].2:=⟨_,rfl⟩;rw[<- hx,<- hl]at C1⊢;rw[<- hl]at hin;have hsz:(s.size:Int)<=1000000:=Om
 have g1:(0:Int)<=(pos:Int)+(l:Int):=Om
 have g2:(pos:Int)<=(pos:Int)+(l:Int):=Om
 have g3:(pos:Int)+(l:Int)<=(s.size:Int):=Om
 have g4:((pos:Int)+(l:Int)).toNat=pos+l:=Om
 have hsum:IntKind.i64.wrap ((pos:Int)+(l:Int))=(pos:Int)+(l:Int):=by rw[IntKind.wrap_i64];omega
 have lbl:ba<w.heap.size:=lt_of_cell ha;clear hF h1 h2 h3 h4 hla hmo hfin hid hO hno hL hkl hx hl;go_enter Tryz.func193,Tryz.ntmps193
 go_upto_region 0 with fail
 go_still_tail 11,Kr
 change wpList _ _ _ _ _ w.drew;go_wp2_with (go_at_call 190;refine (C1.out 1).mono ?_;rintro e w2 ⟨rfl,vs',nb',a1,a2,a3,a4⟩;have HA:=Hd (Ai1 a1 (Ai1 a2 (Ai1 a3 a4)));have ha2:=a2.cell ha (λe=>HH.out.2.2.1 ((HH.out.2.2.2.2.1 _).2 e));have hf2:=(a2.frozen ha (λe=>HH.out.2.2.1 ((HH.out.2.2.2.2.1 _).2 e))).trans hf;clear a1 a2 a3 a4)
 all_goals go_end0
 all_goals obtain⟨hF,h2,hno,hO,h3,_⟩:=HH.out
 all_goals obtain⟨a1,a2,a3,a4⟩:=HA.out
 ·refine⟨rfl,Me hF h2 hno hO h3 hba lbl a1 a2 a3 ha2 a4 ((Fr.refl (λj=>j=ba) w2).setCell ⟨ba,0,none⟩ _ (λ_=>rfl)) ?_ ?_⟩
  ·exact World.cell?_setCell_same _ _ _ ha2
  ·rw[World.frozen?_setCell];exact hf2
 ·refine⟨rfl,Me hF h2 hno hO h3 hba lbl a1 a2 a3 ha2 a4 (Fl _) ?_ hf2⟩;rw[ha2];simpa using ‹(!decide (0<m))=false›
end
end Go.Proofs.YtlfoalomaofejaaGreatDoor
