/- impl.dictOf: the plain data of -/
import Derived.Test.YtlfoalomaofejaaGreatDoorM20
import Derived.StillTail
import Derived.OrdersHeld
import Derived.Deep.RegionHeld
set_option linter.all false
set_option maxRecDepth 100000
set_option maxHeartbeats 2000000
namespace Go.Proofs.YtlfoalomaofejaaGreatDoor
section
open Go.RowKit DT SS TR
def Ur(g n h:Nat)(ws:List ByteArray):Q2 :=
 ⟨λF w=>Tb w g n h ws/\F g/\F h,by
  rintro F w w' ⟨⟨⟨B,C,T,⟨cs,K,a2⟩,a3⟩,l,J,I⟩,h1,h2⟩ q A;have G:=((Ls Tm h l).st (F:=F) (w:=w) (w':=w') ⟨J,h2⟩ q A).1
  exact⟨⟨⟨B,C,T,⟨cs,frz q A h1 K,a2⟩,a3⟩,l,G,I⟩,h1,h2⟩⟩
def Zw(d:Zg):List GWord:=Z6 V0 d.words
def Z8(ws:List GWord):Nat->List ByteArray
 | 0=>[]
 | k+1=>Wh (Z8 ws k) (ws.getD k default).pos
def Uw(ns p:List ByteArray):List Int:=p.map λs=>(((Wb (Wh ns p) s).getD 0:Nat):Int)+1
def Qx(ws:List GWord):Nat->List (List Int)
 | 0=>[]
 | k+1=>Qx ws k++[Uw (Z8 ws k) (ws.getD k default).pos]
abbrev tId:Ty Int:=Ty.scalar (Value.int .u16) (λ_=>True) (λ_=>rfl)
abbrev tIds:Ty (List Int):=Ty.slice tId
def Zft(ws:List GWord):List Value:=ws.flatMap λu=>Lq u.left u.right u.weight
def Td(cs:List Qv)(r:Nat):Int:=cs.foldl (λa c=>if c.lo<=(r:Int)/\(r:Int)<=c.hi then c.cls else a) 0
def Zbb(ws:List GWord):List Value:=ws.map λu=>.string u.surface
def Wt(cs:List Int):List Value:=cs.map (Value.int .i16)
theorem Wp(ws:List GWord):∀ k,(Qx ws k).length=k
 | 0=>rfl
 | k+1=>by simp[Qx,Wp ws k]
theorem Zfs(ws:List GWord)(k:Nat)(h:k<ws.length):Zft (ws.take (k+1))=Zft (ws.take k)++Lq ws[k].left ws[k].right ws[k].weight:=by
 rw[List.take_succ_eq_append_getElem h];simp only[Zft,List.flatMap_append,List.flatMap_cons,List.flatMap_nil,List.append_nil]
theorem Zhp(cs:List Qv)(k:Nat)(h:k<cs.length)(r:Nat):Td (cs.take (k+1)) r=if cs[k].lo<=(r:Int)/\(r:Int)<=cs[k].hi then cs[k].cls else Td (cs.take k) r:=by
 rw[List.take_succ_eq_append_getElem h];simp only[Td,List.foldl_append,List.foldl_cons,List.foldl_nil]
theorem Pn(ws:List GWord)(h:∀ u∈ws,u.pos.length<=50):∀ k,k<=ws.length->(Z8 ws k).length<=k*50
 | 0,_=>by simp[Z8]
 | k+1,hk=>by
  have h1:=Pn ws h k Om;have h2:=Hk (ws.getD k default).pos (Z8 ws k);have e:ws.getD k default=ws[k]' Om:=by rw[List.getD_eq_getElem?_getD,Ge Om];rfl
  have h3:=h _ (List.getElem_mem ((Om:k<ws.length)));rw[e]at h2;show (Wh (Z8 ws k) (ws.getD k default).pos).length<=_;rw[e];omega
structure Hr(d:Zg):Prop where
 words:d.words.length<=1000
 word:∀ u∈d.words,u.pos.length<=50/\u.contents.length<=1000
 unk:d.unknown.length<=1000
 unk1:∀ u∈d.unknown,u.contents.length<=1000
 meta0:d.meta0.length<=1000
 metaU:d.unkMeta.length<=1000
 chars:d.chars.length<=1000
 sum:Rc (d.words.map GWord.surface)<=50000
section
variable{d:Zg}
theorem Tj(h:Zl d=true):∀ u∈d.words,(0<=u.left/\u.left<d.cols)/\(0<=u.right/\u.right<d.rows)/\(-32768<=u.weight/\u.weight<=32767)/\Wz u.surface=true:=by
 intro u q;unfold Zl at h;simp only[Bool.and_eq_true,List.all_eq_true]at h;have:=h.2.2.1 u q;simp only[Xz,Uo,Bool.not_eq_true',Bool.or_eq_false_iff,decide_eq_false_iff_not,Bool.not_eq_false',decide_eq_true_eq]at this;obtain⟨⟨h1,h2⟩,h3⟩:=this;exact⟨Om,Om,h2,h3⟩
theorem Vb(h:Zl d=true):(1<=d.rows/\d.rows<=64)/\(1<=d.cols/\d.cols<=64)/\(d.costs.length:Int)=d.rows*d.cols/\1<=d.classes.length/\d.classes.length<=12:=by
 unfold Zl at h;simp only[Bool.and_eq_true,Bool.not_eq_true']at h;have:=h.1;simp only[Mz,decide_eq_false_iff_not]at this;refine⟨Om,Om,?_,Om,Om⟩;exact Decidable.not_not.1 (λq=>this (.inr (.inr (.inr (.inr (.inl q))))))
theorem Ie(h:Zl d=true):∀ c∈d.costs,-32768<=c/\c<=32767:=by
 intro c q;unfold Zl at h;simp only[Bool.and_eq_true,List.all_eq_true]at h;have:=h.2.1 c q;simpa [Uo] using this
theorem Lj(h:Zl d=true):∀ u∈d.unknown,(0<=u.cls/\u.cls<d.classes.length)/\(0<=u.left/\u.left<d.cols)/\(0<=u.right/\u.right<d.rows)/\(-32768<=u.weight/\u.weight<=32767):=by
 intro u q;unfold Zl at h;simp only[Bool.and_eq_true,List.all_eq_true]at h;have:=h.2.2.2.1 u q;simp only[Xy,Uo,Bool.not_eq_true',Bool.or_eq_false_iff,decide_eq_false_iff_not,Bool.not_eq_false',decide_eq_true_eq]at this;obtain⟨h1,h2⟩:=this;exact⟨Om,Om,Om,h2⟩
theorem Kf(h:Zl d=true):∀ c∈d.chars,(0<=c.lo/\c.lo<=65535)/\(0<=c.hi/\c.hi<=65535)/\(0<=c.cls/\c.cls<d.classes.length):=by
 intro c q;unfold Zl at h;simp only[Bool.and_eq_true,List.all_eq_true]at h;have:=h.2.2.2.2.1 c q;simp only[Wf,Bool.not_eq_true',decide_eq_false_iff_not]at this;omega
theorem Ri(h:Zl d=true):∀ m∈d.meta0++d.unkMeta,0<=m.place/\m.place<=100:=by
 intro m q;unfold Zl at h;simp only[Bool.and_eq_true,List.all_eq_true]at h;have:=h.2.2.2.2.2.1 m q;simp only[V7,Bool.not_eq_true',decide_eq_false_iff_not]at this;omega
theorem Zag(h:Zl d=true)(hd:Hr d):Zkv d.unknown:=by
 have A:=Vb h;refine⟨by have:=hd.unk;omega,λu q=>?_⟩;have:=Lj h u q;have:=hd.unk1 u q;exact⟨Om,Om,Om,Om,Om⟩
end
def Za0(ns:List ByteArray)(j:Nat):Value:=.string (if j=0 then ⟨#[]⟩ else ns.getD (j-1) ⟨#[]⟩)
abbrev Ym(v0 G v2:Value)(V:Nat)(v4:Value)(rows cols:Int)(A W X q:Value)(Y:Nat)(v12 h M L K J I:Value):Array Value :=
 #[v0,G,v2,.map (some V),v4,.int .i64 rows,.int .i64 cols,A,W,X,q,.slice (some ⟨Y,0,none⟩) 65536 65536,v12,h,M,L,K,J,I]
abbrev Z4(d:Zg)(ws:List GWord)(kd G J A I:Nat)(h v0 q v4:Value)(cs:Array Value)(f:Nat->Value):List Q2 :=
  [Tp kd cs 225,Ls Yi G (Xj (Zj d.meta0)),Py J 5 65536 f,Ls Yi A (Dw (Z8 ws ws.length)),
   Yq 9 1 h ws.length (Zbb ws),Yq 178 3 v0 ws.length (Zft ws),rowD tIds 227 q (Qx ws ws.length),rowD strs 34 v4 (ws.map GWord.contents),
   Py I 9 ((Z8 ws ws.length).length+1) (Za0 (Z8 ws ws.length))]
def Zt(d:Zg)(kd L Y mp X g n W ko M V K:Nat)(Z v0 G v4 A q v12 h J I:Value):List Q2 :=
  Z4 d (Zw d) kd L Y mp X Z v0 G v4 (Ym v0 G (.slice (some ⟨X,0,none⟩) ((Z8 (Zw d) (Zw d).length).length+1) ((Z8 (Zw d) (Zw d).length).length+1)) L v4 d.rows d.cols A (.slice (some ⟨g,0,none⟩) n n) (.map (some W)) q Y v12 h J (.map (some M)) (.map (some V)) (.map (some K)) I) (λr=>.int .u8 (Td d.chars r)) ++
  ([Yq 176 1 A d.costs.length (Wt d.costs),
    Ur g n W ((Zw d).map GWord.surface),
    Yq 9 1 q d.classes.length (d.classes.map λc=>Value.string c.name),
    Yq 4 1 v12 d.classes.length (d.classes.map λc=>Value.bool c.invoke),
    Yq 4 1 h d.classes.length (d.classes.map λc=>Value.bool c.group)] ++
   Nr (Ze d) d.unknown.length ko M V K d.unkMeta J I)
abbrev Zy:Value:=.slice none 0 0
abbrev T6(d:Zg)(ws:List GWord)(kd q I K L G A V M:Nat)(J v0 h v4:Value):List Q2 :=
  [Tp kd (Ym v0 h Zy q v4 0 0 Zy Zy (.map none) Zy I Zy Zy Zy (.map none) (.map none) (.map none) Zy) 225,
   Ls Yi q (Xj (Zj d.meta0)),
   Py I 5 65536 (λ_=>.int .u8 0),
   Ls Yi K (Dw (Z8 ws L)),
   Yq 9 1 J G (Zbb (ws.take G)),
   Yq 178 3 v0 A (Zft (ws.take A)),
   rowD tIds 227 h (Qx ws V),
   rowD strs 34 v4 ((ws.take M).map GWord.contents)]
theorem Hb{d:Zg}{ws:List GWord}{kd h q A H:Nat}{w:World}(G:w.heap[kd]?=some (.cells (Ym Zy Zy Zy h Zy 0 0 Zy Zy (.map none) Zy q Zy Zy Zy (.map none) (.map none) (.map none) Zy) 225 (0,0)))(h1:Zq Yi h (Xj (Zj d.meta0)) w)(h2:w.rowIs q 5 65536 (λ_=>.int .u8 0))(h3:Zq Yi A [] w)
  (d1:H<=h) (d2:H<=q) (Z:h<kd) (Y:q<kd) (X:h≠q) (W:kd<A):Yr H (T6 d ws kd h q A 0 0 0 0 0 Zy Zy Zy Zy) w:=by
 have M:=(Gs1.1 G).1;have L:=h3.lt;refine⟨λi b=>(i=0/\b=kd)\/(i=1/\b=h)\/(i=2/\b=q)\/(i=3/\b=A),λi hi=>?_,λi j hi V I b K J=>Om,λi hi b K=>Om⟩
 match i,hi with
 | 0,_=>exact⟨G,.inl ⟨rfl,rfl⟩⟩
 | 1,_=>exact⟨h1,.inr (.inl ⟨rfl,rfl⟩)⟩
 | 2,_=>exact⟨h2,.inr (.inr (.inl ⟨rfl,rfl⟩))⟩
 | 3,_=>exact⟨h3,.inr (.inr (.inr ⟨rfl,rfl⟩))⟩
 | 4,_=>exact⟨World.ownsRow_nil _ _ _ _,λb e=>by cases e⟩
 | 5,_=>exact⟨World.ownsRow_nil _ _ _ _,λb e=>by cases e⟩
 | 6,_=>exact⟨[],rfl,World.ownsRow_nil _ _ _ _,(λb e=>by cases e),(λi hi=>by simp[Qx]at hi)⟩
 | 7,_=>exact⟨[],rfl,World.ownsRow_nil _ _ _ _,(λb e=>by cases e),(λi hi=>by simp at hi)⟩
def Zz(d:Zg)(kd H U:Nat)(w:World):Prop :=
 ∃ V cc M gl g n Y Z W X L A v0 I v4 G q v12 h K J,Ta H U (Zt d kd V cc M gl g n Y Z W X L A v0 I v4 G q v12 h K J) w
theorem Zz.keep{d:Zg}{kd H U:Nat}{S:Nat->Prop}{w w':World}(h:Zz d kd H U w)(f:Fr S w w')(hS:∀ b,H<=b->b<U->¬ S b):Zz d kd H U w':=by
 obtain⟨W,cc,V,gl,g,n,Z,ko,X,Y,M,G,v0,J,v4,I,A,v12,q,L,K,h⟩:=h;exact⟨W,cc,V,gl,g,n,Z,ko,X,Y,M,G,v0,J,v4,I,A,v12,q,L,K,h.keep f hS⟩
end
section
open Go.RowKit DT SS TR
theorem Zjq:(Tryz.prog.info? 227).map (λi=>(i.zero,i.size,i.bytes))=some (some (.slice none 0 0),1,24):=Kr
def Zo9(ws:List GWord)(v:Value)(O:Nat->Prop)(w:World):Prop :=
 ∀ k (G:k<ws.length),∃ b q A c h c',v=.slice (some ⟨b,0,none⟩) ws.length q/\strs.R w O ws[k].pos [.slice A ws[k].pos.length c]/\strs.R w O ws[k].contents [.slice h ws[k].contents.length c'] /\
  w.cell? ⟨b,k*6,none⟩=some (.string ws[k].surface)/\w.cell? ⟨b,k*6+1,none⟩=some (.int .i64 ws[k].left)/\w.cell? ⟨b,k*6+2,none⟩=some (.int .i64 ws[k].right)/\w.cell? ⟨b,k*6+3,none⟩=some (.int .i64 ws[k].weight) /\
  w.cell? ⟨b,k*6+4,none⟩=some (.slice A ws[k].pos.length c)/\w.cell? ⟨b,k*6+5,none⟩=some (.slice h ws[k].contents.length c')
theorem Zlp{d:Zg}{O:Nat->Prop}{V M:World}{v:Value}{J:List (El GWord 5)}(L:Els tWord T8 5 V O d.words J)(h:M.ownsRow V.heap.size 53 6 v d.words.length ((Z6 (λx y:El GWord 5=>V0 x.key y.key) J).flatMap (El.enc T8)))(hf:Fr (λj=>v.ownBlock=some j) V M):Zo9 (Zw d) v O M:=by
 have e1:=Ni L V0;have hl:(Zw d).length=d.words.length:=(Z0 _ _).length_eq;have K:(Z6 (λx y:El GWord 5=>V0 x.key y.key) J).map El.key=Zw d:=e1.1;have aa:∀ j,v.ownBlock=some j->V.heap.size<=j:=λj e=>Yo (g:=j) h e
 intro k Z;have G:k<(Z6 (λx y:El GWord 5=>V0 x.key y.key) J).length:=by rw[<- K,List.length_map]at Z;exact Z
 obtain⟨b,cp,e,I⟩:=Zbv h k G
 have hx:(Z6 (λx y:El GWord 5=>V0 x.key y.key) J)[k].key=(Zw d)[k]:=by
  have:((Z6 (λx y:El GWord 5=>V0 x.key y.key) J).map El.key)[k]?=(Zw d)[k]?:=by rw[K]
  rw[List.getElem?_map,Ge G,Ge Z]at this;exact Option.some.inj this
 have W:tWord.R M O (Zw d)[k] ((Z6 (λx y:El GWord 5=>V0 x.key y.key) J)[k].enc T8):=by
  rw[<- hx];exact tWord.keep (e1.2 _ (List.getElem_mem G)) hf (λj hj _ e=>by have:=aa j e;omega)
 obtain⟨p,q,e2,hp,hq,_⟩:=Ti W;obtain⟨A,c,e3,Y⟩:=hp;obtain⟨A',c',e4,X⟩:=hq;cases e3;cases e4;rw[e2]at I;rw[hl];exact⟨b,cp,A,c,A',c',e,⟨A,c,rfl,Y⟩,⟨A',c',rfl,X⟩,I 0 _ rfl,I 1 _ rfl,I 2 _ rfl,I 3 _ rfl,I 4 _ rfl,I 5 _ rfl⟩
theorem Zns{J:World}{ns p:List ByteArray}{g U:Nat}{f:Nat->Value}(M:U<=g)(q:J.rowIs g 229 p.length f)(G:∀ j (h:j<p.length),∃ i,Wb (Wh ns p) p[j]=some i/\f j=.int .u16 ((i:Nat)+1:Int))(hl:p.length<=1000) :
  tIds.R J (λj=>U<=j) (Uw ns p) [.slice (some ⟨g,0,none⟩) p.length p.length]:=by
 have A:(Uw ns p).length=p.length:=by simp[Uw]
 refine⟨some ⟨g,0,none⟩,p.length,by rw[A],Om,(λe=>by cases e),Om,.inr ⟨g,0,rfl,M,q.lt,λi hi=>⟨[.int .u16 (Uw ns p)[i]],⟨rfl,trivial⟩,λj L=>?_⟩⟩⟩;have K:j=0:=by simpa using L
 subst K;have I:i<p.length:=Om
 obtain⟨x,h1,h2⟩:=G i I;have e:(Uw ns p)[i]=((x:Nat):Int)+1:=by simp only[Uw,List.getElem_map,h1,Option.getD_some]
 have:=q.cell I;rw[h2]at this;show J.cell? ⟨g,0+i*1+0,none⟩=some (.int .u16 (Uw ns p)[i]);rw[e,(Om:0+i*1+0=i)];exact this
theorem Zc0(ws:List GWord)(k:Nat)(h:k<ws.length):Qx ws (k+1)=Qx ws k++[Uw (Z8 ws k) ws[k].pos]:=by
 show _++[Uw _ (ws.getD k default).pos]=_;rw[List.getD_eq_getElem?_getD,Ge h];rfl
theorem Mb(ws:List GWord)(k:Nat)(h:k<ws.length):Z8 ws (k+1)=Wh (Z8 ws k) ws[k].pos:=by
 show Wh _ (ws.getD k default).pos=_;rw[List.getD_eq_getElem?_getD,Ge h];rfl
theorem Zdk(ws:List GWord)(k:Nat)(h:k<ws.length):Zbb (ws.take (k+1))=Zbb (ws.take k)++[.string ws[k].surface]:=by
 rw[List.take_succ_eq_append_getElem h];simp only[Zbb,List.map_append,List.map_cons,List.map_nil]
theorem Zhg(ws:List GWord)(k:Nat)(h:k<ws.length):(ws.take (k+1)).map GWord.contents=(ws.take k).map GWord.contents++[ws[k].contents]:=by
 rw[List.take_succ_eq_append_getElem h];simp only[List.map_append,List.map_cons,List.map_nil]
end
end Go.Proofs.YtlfoalomaofejaaGreatDoor
section
namespace SS
variable{α:Type}{lt:α->α->Bool}
theorem Ze4(h:Go.Sort.SWO lt)(x:α):∀ l:List α,l.Pairwise (λa b=>lt b a=false)->(Tt lt x l).Pairwise (λa b=>lt b a=false)
 | [],_=>by simp[Tt]
 | y::l,hp=>by
  rw[List.pairwise_cons]at hp;unfold Tt
  split
  next c =>
   rw[List.pairwise_cons];refine⟨λz q=>?_,by rw[List.pairwise_cons];exact hp⟩
   cases A:lt z x with
   | false=>rfl
   | true =>
    have t:=h.trans _ _ _ A c;rcases List.mem_cons.1 q with rfl|q
    ·rw[h.irrefl]at t;cases t
    ·rw[hp.1 z q]at t;cases t
  next c =>
   rw[List.pairwise_cons];refine⟨λz q=>?_,Ze4 h x l hp.2⟩;rcases List.mem_cons.1 ((Sr lt x l).mem_iff.1 q) with rfl|q
   ·simpa using c
   ·exact hp.1 z q
theorem Zid(h:Go.Sort.SWO lt)(l:List α):(Z6 lt l).Pairwise (λa b=>lt b a=false):=by
 have:∀ (l q:List α),q.Pairwise (λa b=>lt b a=false)->(l.foldl (λq x=>Tt lt x q) q).Pairwise (λa b=>lt b a=false):=by
  intro l
  induction l with
  | nil=>intro q h1;exact h1
  | cons x l ih=>intro q h1;exact ih _ (Ze4 h x q h1)
 exact this l [] .nil
end SS
namespace Go.Proofs.YtlfoalomaofejaaGreatDoor
open Go.RowKit DT SS TR
theorem Ng:∀ a b:List UInt8,¬ (Lib.compareBytes b a<0)->lex a b=true
 | [],_,_=>by simp[lex]
 | a::l,[],h=>by simp[Lib.compareBytes]at h
 | a::l,b::m,h=>by
  unfold Lib.compareBytes at h;unfold lex
  split at h
  ·exact absurd (by decide) h
  next h1 =>
   split at h
   next h2 =>
    simp[h2]
   next h2 =>
    have h3:¬ b.toNat<a.toNat:=h1;have h4:¬ a.toNat<b.toNat:=h2;have e:a=b:=UInt8.toNat_inj.1 Om;have:=Ng l m h;simp[e,this]
theorem Ov(l:List GWord):Asc ((Z6 V0 l).map GWord.surface):=by
 refine List.pairwise_map.2 ((Zid Jt l).imp (λ{a b} h=>Ng _ _ ?_));simpa [V0,Vr] using h
theorem Xa{s:ByteArray}(h:Wz s=true):(0:UInt8) ∉ s.data.toList/\s≠ByteArray.empty/\Lib.validD s.data.toList=true:=by
 simp only[Wz,Bool.and_eq_true,decide_eq_true_eq,Bool.not_eq_true',List.isEmpty_eq_false_iff]at h;exact⟨h.1.1,λe=>h.1.2 (by rw[e];rfl),h.2⟩
theorem Iy(ws:List ByteArray)(v:Value)(n:Nat)(w:World)(W:ws.length=n)(h:w.ownsRow 0 9 1 v n (ws.map Value.string))(G:Asc ws)(J:∀ x∈ws,x≠ByteArray.empty)(q:ws.length<=10000)(L:∀ x∈ws,(0:UInt8) ∉ x.data.toList)(V:Rc ws<=50000) :
  Calls Tryz.prog 184 #[v] w λe w'=>Zf w w'/\∃ g n I,e=.returned (.tuple #[.agg #[.slice (some ⟨g,0,none⟩) n n,.map (some I)],.nilIface])/\w.heap.size<=g/\w.heap.size<=I/\Tb w' g n I ws:=by
 subst W;rcases Nat.eq_zero_or_pos ws.length with K|K
 ·obtain⟨A,c,rfl⟩:=Zm h;have M:ws=[]:=List.eq_nil_of_length_eq_zero K;subst M;exact index_none A c w
 ·rcases id h.2 with ⟨_,e⟩|⟨g,cap,Y,rfl,_⟩
  ·omega
  ·exact Zg7 ws g 0 cap w (λj X=>by
    have:=h.cells (g:=g) rfl j (.string ws[j]) (by simp[X]);rw[Addr.add_lit]at this
    exact this) G J K q L V
theorem Zmc:(Tryz.prog.info? 176).map (λi=>(i.zero,i.size,i.bytes))=some (some (.int .i16 0),1,2):=Kr
theorem Fu:(Tryz.prog.info? 4).map (λi=>(i.zero,i.size,i.bytes))=some (some (.bool false),1,1):=Kr
theorem Zbx(cs:List Int)(k:Nat)(h:k<cs.length):Wt (cs.take (k+1))=Wt (cs.take k)++[.int .i16 cs[k]]:=by
 rw[List.take_succ_eq_append_getElem h];simp only[Wt,List.map_append,List.map_cons,List.map_nil]
theorem Iv{α:Type}(f:α->Value)(cs:List α)(k:Nat)(h:k<cs.length):(cs.take (k+1)).map f=(cs.take k).map f++[f cs[k]]:=by
 rw[List.take_succ_eq_append_getElem h];simp only[List.map_append,List.map_cons,List.map_nil]
theorem Zaf{w:World}{b n:Nat}{t:TypeId}{f q:Nat->Value}(h:w.rowIs b t n f)(e:∀ i,i<n->f i=q i):w.rowIs b t n q:=by
 obtain⟨c,a,s,h⟩:=h;exact⟨c,a,s,λi hi=>by rw[h i hi,e i hi]⟩
theorem Zjb{w:World}{b:Nat}{t:TypeId}{ns:List ByteArray}{f:Nat->Value}(h:w.rowIs b t (ns.length+1) f)(A:f 0=.string ⟨#[]⟩)(h1:∀ (j:Nat) (s:ByteArray),ns[j]?=some s->f (j+1)=.string s):w.rowIs b t (ns.length+1) (Za0 ns):=by
 refine Zaf h (λi hi=>?_)
 cases i with
 | zero=>rw[A];rfl
 | succ j =>
  have q:j<ns.length:=Om
  rw[h1 j ns[j] (by rw[Ge q])];simp[Za0,q]
end Go.Proofs.YtlfoalomaofejaaGreatDoor
end
namespace Go.Proofs.YtlfoalomaofejaaGreatDoor
section
open Go
section
variable{P:Program}{ops:Array Oper}{Q:Exit->Act->World->Prop}{S:World->Prop}{z:Nat}
def La(P:Program)(ops:Array Oper)(Q:Exit->Act->World->Prop)(S:World->Prop)(z:Nat):Nat->Array Bool->Act->World->Prop
 | 0,listed,a,w=>Region.ready .any ops listed=[]/\Q .normal a w
 | fuel+1,listed,a,w =>
  (Region.ready .any ops listed=[]->Q .normal a w) /\
  ∀ i∈Region.ready .any ops listed,wpOp P ops Q i (λh w'=>(i≠z->S w')/\La P ops Q S z fuel (listed.setIfInBounds i true) h w') a w
theorem Jr:∀ (fuel:Nat) (q:Array Bool) (a:Act) (w:World),La P ops Q S z fuel q a w->wpAny P .any ops Q fuel q a w
 | 0,_,_,_,h=>h
 | fuel+1,_,_,_,h=>⟨h.1,λi hi=>wpOp_mono (λG w' A=>Jr fuel _ G w' A.2) (h.2 i hi)⟩
theorem Eq{i:Nat}{W:Oper}{v:Value}(hi:ops[i]?=some W)(ai:i<z)(hz:z<ops.size)(hs:Region.sinkB .any ops z=true)(hc:Region.chainB .any ops z=true)(K:∀ (j:Nat) (o:Oper) cs b,ops[j]?=some o->o.op ≠ .select cs b)
  (hQ:∀ c a w,Q (.panic c) (a.put W.dst v) w->Q (.panic c) a w) :
  ∀ (fuel:Nat) (A:Array Bool) (a:Act) (w:World),HeadInv .any ops z A ->
   (∀ j V,ops[j]?=some V->j≠i->A.getD j true=false->(∀ e∈V.after,Region.binds .any e=true->e.on≠i)->W.apart ops V=true) ->
   i∈Region.ready .any ops A->YieldsIf P ops S W v a->S w ->
   La P ops Q S z fuel (A.setIfInBounds i true) (a.put W.dst v) w->La P ops Q S z (fuel+1) A a w:=by
 intro fuel
 induction fuel with
 | zero =>
  intro A a w _ _ L hy hS H;refine⟨λh=>(by rw[h]at L;cases L),λj Y=>?_⟩;by_cases G:j=i
  ·subst G;exact hy.wpOp hi hS ⟨λ_=>hS,H⟩
  ·have:=ready_mono Y G;rw[H.1]at this;cases this
 | succ fuel ih =>
  intro A a w Z I L hy hS H;refine⟨λh=>(by rw[h]at L;cases L),λj Y=>?_⟩;by_cases G:j=i
  ·subst G;exact hy.wpOp hi hS ⟨λ_=>hS,H⟩
  ·have h1:=H.2 j (ready_mono Y G);have ad:A.getD i true=false:=(mem_ready.1 L).1
   have ah:j<z:=by
    rcases Nat.lt_or_ge j z with q|q
    ·exact q
    ·exact absurd Y (tail_waits hs hc hz Z _ i rfl ai ad j q)
   obtain⟨M,V,X,ae⟩:=mem_ready.1 Y
   have ab:∀ e∈V.after,Region.binds .any e=true->e.on≠i:=λe he hb aj=>by
    have h1:=ae e he hb;have h0:=(mem_ready.1 L).1;rw[aj]at h1;rcases Nat.lt_or_ge i A.size with h'|h'
    ·simp[h']at h0 h1;rw[h0]at h1;cases h1
    ·simp[Array.getElem?_eq_none h']at h1
   have h2:=wpOp_putIf X (I j V X G M ab) (λcs b=>K i W cs b hi) (λcs b=>K j V cs b X) hQ hy h1
   have J:∀ k ok,ops[k]?=some ok->k≠i->(A.setIfInBounds j true).getD k true=false ->
     (∀ e∈ok.after,Region.binds .any e=true->e.on≠i)->W.apart ops ok=true:=λk ok hk ag aa af=>by
    refine I k ok hk ag ?_ af;by_cases ac:j=k
    ·subst ac;exact M
    ·rw[getD_set_ne true ac]at aa;exact aa
   refine wpOp_mono (λa' w' h3=>⟨h3.2.1,ih (A.setIfInBounds j true) a' w' (Z.set Y ah) J (ready_mono L (Ne.symm G)) h3.1 (h3.2.1 Om) ?_⟩) h2;rw[Array.setIfInBounds_comm _ _ G];exact h3.2.2
def WZ(P:Program)(ops:Array Oper)(Q:Exit->Act->World->Prop)(S:World->Prop)(z fuel:Nat)(h:Array Bool)(a:Act)(w:World):Prop:=HeadInv .any ops z h->La P ops Q S z fuel h a w
def zOk(ops:Array Oper)(z:Nat)(h:Array Bool)(i:Nat):Bool:=Region.noSelect ops&&decide (i<z)&&decide (z<ops.size)&&Region.sinkB .any ops z&&Region.chainB .any ops z&&Region.free .any ops h i&&(Region.ready .any ops h).contains i
theorem WZ.take{i:Nat}{G:Oper}{v:Value}{dst:Option Tmp}{fuel:Nat}{q:Array Bool}{a:Act}{w:World}(hi:ops[i]?=some G)(hd:G.dst=dst)(K:zOk ops z q i=true)
  (hQ:∀ c a w,Q (.panic c) (a.put dst v) w->Q (.panic c) a w) (Z:YieldsIf P ops S G v a) (hS:S w)
  (h:WZ P ops Q S z fuel (q.setIfInBounds i true) (a.put dst v) w):WZ P ops Q S z (fuel+1) q a w:=by
 subst hd;simp only[zOk,Bool.and_eq_true,decide_eq_true_eq]at K;obtain⟨⟨⟨⟨⟨⟨Y,I⟩,X⟩,W⟩,V⟩,M⟩,L⟩:=K;intro A;have J:i∈Region.ready .any ops q:=by simpa using L
 exact Eq hi I X W V (Region.noSelect_spec Y) hQ fuel q a w A (Region.free_spec hi M) J Z hS (h (A.set J I))
theorem WZ.one{i:Nat}{I:Oper}{fuel:Nat}{A:Array Bool}{a:Act}{w:World}(hi:ops[i]?=some I)(K:Region.ready .any ops A=[i])(X:i<z)
  (h:∀ G:Act->World->Prop,Shut (∀ a w,S w->(S w->WZ P ops Q S z fuel (A.setIfInBounds i true) a w)->G a w)->if Region.wanted I (yielded ops a.tmps)=true then Oper.wp P I a w G Q else G (a.put I.dst undef) w):WZ P ops Q S z (fuel+1) A a w:=by
 intro J;have M:i∈Region.ready .any ops A:=by rw[K];simp
 refine⟨λq=>(by rw[K]at q;cases q),λj V=>?_⟩;have L:j=i:=by rw[K]at V;simpa using V
 subst L;exact wpOp_step hi (λG Z=>h G (λa w W Y=>Z a w ⟨λ_=>W,Y W (J.set M X)⟩))
theorem WZ.last{I:Oper}{A:Array Bool}{a:Act}{w:World}(hi:ops[z]?=some I)(L:Region.ready .any ops A=[z])(J:Region.ready .any ops (A.setIfInBounds z true)=[])
  (h:∀ G:Act->World->Prop,Shut (∀ a w,Q .normal a w->G a w)->if Region.wanted I (yielded ops a.tmps)=true then Oper.wp P I a w G Q else G (a.put I.dst undef) w):WZ P ops Q S z 1 A a w:=by
 intro V;refine⟨λq=>(by rw[L]at q;cases q),λj M=>?_⟩;have K:j=z:=by rw[L]at M;simpa using M
 subst K;exact wpOp_step hi (λG X=>h G (λa w W=>X a w ⟨λe=>absurd rfl e,J,W⟩))
@[reducible] def WL (_todo:List (Nat×Tmp)) (P:Program) (ops:Array Oper) (Q:Exit->Act->World->Prop) (S:World->Prop) (z fuel:Nat) (listed:Array Bool) (a:Act) (w:World):Prop:=WZ P ops Q S z fuel listed a w
theorem WL.tk{i:Nat}{d:Tmp}{l:List (Nat×Tmp)}{A:Oper}{v:Value}{fuel:Nat}{q:Array Bool}{a:Act}{w:World}(hi:ops[i]?=some A)(hd:A.dst=some d)(I:zOk ops z q i=true)
  (K:∀ c a w,Q (.panic c) (a.put (some d) v) w->Q (.panic c) a w) (G:YieldsIf P ops S A v a) (J:S w)
  (h:WL l P ops Q S z fuel (q.setIfInBounds i true) (a.put (some d) v) w):WL ((i,d)::l) P ops Q S z (fuel+1) q a w:=WZ.take hi hd I K G J h
theorem WL.go(todo:List (Nat×Tmp)){fuel:Nat}{q:Array Bool}{a:Act}{w:World}(h:WL todo P ops Q S z fuel q a w):WZ P ops Q S z fuel q a w:=h
theorem Ye{id:Nat}{l:List Oper}{a:Act}{w:World}(z n:Nat)(A:Array Bool)(S:World->Prop)(J:P.follows .mixedOrders=true)(I:l.length=n)(hl:Array.replicate n false=A)(K:S w.drew)
  (h:S w.drew->WZ P l.toArray Q S z n A a w.drew):(Code.region id l.toArray true).wp P Q a w:=by
 refine wp_region_any J ?_
 have q:HeadInv .any l.toArray z (Array.replicate l.toArray.size false) :=
  ⟨by simp,λj L _ hl=>(by rw[getD_replicate_false]at hl;cases hl),λt _ G=>getD_in (by simpa using G) (getD_replicate_false _ _)⟩
 have H:=h K;subst I;subst hl;have:=Jr _ _ _ _ (H q);simpa using this
end
end
section
open Go.RowKit
theorem Zax(w:World):Calls Tryz.prog 155 #[] w λe w'=>e=.returned (.func (.func 189) #[] #[])/\w'=w:=by
 go_enter Tryz.func155,Tryz.ntmps155
 go_wp2_with fail
 first|go_ret|go_ret2
 exact⟨rfl,rfl⟩
theorem Zgx(t:Nat)(u:Value)(w:World)(h:w.cell? ⟨t,2,none⟩=some u)(q:w.frozen? ⟨t,2,none⟩=false):Calls Tryz.prog 189 #[.pointer (some ⟨t,0,none⟩)] w λe w'=>e=.returned .nilIface/\w'=w.setCell ⟨t,2,none⟩ (.bool true):=by
 go_enter Tryz.func189,Tryz.ntmps189
 go_wp2_with fail
 first|go_ret|go_ret2
 exact⟨rfl,rfl⟩
theorem Bt(a:Option Addr)(w:World):Calls Tryz.prog 154 #[.pointer a] w λe w'=>e=.returned (.func (.func 188) #[] #[.pointer (some ⟨w.heap.size,0,none⟩)])/\w'.cell? ⟨w.heap.size,0,none⟩=some (.pointer a)/\Zf w w':=by
 go_enter Tryz.func154,Tryz.ntmps154
 go_wp2_with fail
 first|go_ret|go_ret2
 exact⟨rfl,by simp,(Fl _).alloc _⟩
theorem Es(t b:Nat)(a:Addr)(u:Value)(w:World)(h:w.cell? ⟨t,1,none⟩=some u)(q:w.frozen? ⟨t,1,none⟩=false)(A:w.cell? ⟨b,0,none⟩=some (.pointer (some a))) :
  Calls Tryz.prog 188 #[.pointer (some ⟨t,0,none⟩),.pointer (some ⟨b,0,none⟩)] w λe w'=>e=.returned .nilIface/\w'=w.setCell ⟨t,1,none⟩ (.pointer (some a)):=by
 go_enter Tryz.func188,Tryz.ntmps188
 go_wp2_with fail
 first|go_ret|go_ret2
 exact⟨rfl,rfl⟩
def Zfm(f:Value)(t:Nat)(s A:Array Value)(q:World):Prop :=
 ∃ g h,f=.func (.func g) #[] h/\(∀ args w,(callFunc g args).run Tryz.prog w=.ok (.enter g args) w)/\∀ w:World,Fr (λj=>j=t) q w->w.heap[t]?=some (.cells s 291 (0,0)) ->
  Calls Tryz.prog g (#[.pointer (some ⟨t,0,none⟩)]++h) w λe w'=>e=.returned .nilIface/\w'.heap[t]?=some (.cells A 291 (0,0))/\Fr (λj=>j=t) w w'
theorem Zav{w:World}{b:Nat}{cs:Array Value}{T:TypeId}(h:w.heap[b]?=some (.cells cs T (0,0)))(j:Nat)(u:Value)(q:cs[j]?=some u):w.cell? ⟨b,j,none⟩=some u/\w.frozen? ⟨b,j,none⟩=false:=by
 simp only[World.cell?,World.frozen?,h];exact⟨q,by simp⟩
theorem Zev(t:Nat)(a b c:Value)(q:World):Zfm (.func (.func 189) #[] #[]) t #[a,b,c] #[a,b,.bool true] q:=by
 refine⟨_,_,rfl,λ_ _=>Kr,λw _ h=>?_⟩;obtain⟨h1,h2⟩:=Zav h 2 c rfl;refine (Zgx t c w h1 h2).mono ?_;rintro e w' ⟨rfl,rfl⟩;exact⟨rfl,Yt h 2 _,(Fr.refl (λj=>j=t) w).setCell ⟨t,2,none⟩ _ (λ_=>rfl)⟩
end
section
open Go.RowKit DT
abbrev Y9(kd:Nat)(u:Option Addr)(h:Bool):Array Value:=#[.pointer (some ⟨kd,0,none⟩),.pointer u,.bool h]
theorem Zck(t b:Nat)(a0:Addr)(a c:Value)(u:Value)(q:World)(I:q.cell? ⟨b,0,none⟩=some (.pointer (some a0)))(A:b≠t):Zfm (.func (.func 188) #[] #[.pointer (some ⟨b,0,none⟩)]) t #[a,u,c] #[a,.pointer (some a0),c] q:=by
 refine⟨_,_,rfl,λ_ _=>Kr,λw G h=>?_⟩;obtain⟨h1,h2⟩:=Zav h 1 u rfl;refine (Es t b a0 u w h1 h2 (G.cell I A)).mono ?_;rintro e w' ⟨rfl,rfl⟩;exact⟨rfl,Yt h 1 _,(Fr.refl (λj=>j=t) w).setCell ⟨t,1,none⟩ _ (λ_=>rfl)⟩
theorem Re(kd n c:Nat)(A:Option Addr)(J:List Value)(st:Nat->Array Value)(w:World)(hn:J.length=n)(ab:n<=1000)(hc:∀ j (h:j<J.length),∃ b o,A=some ⟨b,o,none⟩/\b<w.heap.size/\w.cell? ⟨b,o+j,none⟩=some J[j])(h0:st 0=Y9 kd none false)(G:∀ j (h:j<J.length),Zfm J[j] w.heap.size (st j) (st (j+1)) (w.alloc (.cells (Y9 kd none false) 291))) :
  Calls Tryz.prog 156 #[.pointer (some ⟨kd,0,none⟩),.slice A n c] w λe w'=>e=.returned (.tuple #[.pointer (some ⟨w.heap.size,0,none⟩),.nilIface])/\w'.heap[w.heap.size]?=some (.cells (st n) 291 (0,0))/\Zf w w':=by
 have W:=Hd (Ai1 hc (Ai1 h0 (Ai1 G hn)));clear hc h0 G;go_enter Tryz.func156,Tryz.ntmps156
 go_wp2_with fail
 obtain⟨t,V⟩:∃ t,t=w.heap.size:=⟨_,rfl⟩;rw[<- V];have Y:=Hd V
 go_loopg [18] n (λg1 vi wr=>∃ (k:Nat),vi=.int .i64 k/\k<=n/\n<=k+g1/\Hid (wr.heap[t]?=some (.cells (st k) 291 (0,0))/\Fr (λj=>j=t) (w.alloc (.cells (Y9 kd none false) 291)) wr))
 case atStart=>exact⟨0,rfl,Om,Om,by rw[W.out.2.1,V];exact alloc_at _ _,Fl _⟩
 case round =>
  clear V;obtain⟨k,rfl,hk,hg,K⟩:=hrel;by_cases X:k<n
  ·have aa:(k:Int)<n:=Om;have L:k<J.length:=by rw[W.out.2.2.2];exact X
   obtain⟨b,o,rfl,M,q⟩:=W.out.1 k L;have G:=W.out.2.2.1 k L;rw[<- Y.out]at G M;obtain⟨g,cb,hf,eg,I⟩:=G;rw[hf]at q;have q:=K.out.2.cell (((Fe w).alloc _).cell q id) ((Om:¬ b=t));have C1:=I wr K.out.2 K.out.1;have lb:=lt_of_cell q;have Z:=Hd C1;clear I M hf C1;go_wp2_with (first|(refine Z.out.mono ?_;rintro e w5 ⟨rfl,h1,h2⟩;have H5:=Hd (Ai1 h1 h2);clear h1 h2)|fail)
   go_roundg (n-(k+1))
   case measure=>omega
   case rel=>exact⟨k+1,by go_num,Om,Om,H5.out.1,K.out.2.then H5.out.2⟩
  ·obtain rfl:k=n:=Om
   go_wp2_with fail
   first|go_ret|go_ret2
   rw[<- Y.out];refine⟨rfl,K.out.1,?_⟩;exact ((Fe w).alloc _).trans K.out.2 (λj hj e=>by have:=Y.out;omega)
end
section
open Go.RowKit DT SS TR
theorem Tx{w:World}{T:TypeId}{k n:Nat}{v:Value}{xs:List Value}(h:w.ownsRow 0 T k v n xs)(j:Nat)(q:j<n*k):∃ g c,v=.slice (some ⟨g,0,none⟩) n c/\w.cell? ⟨g,j,none⟩=xs[j]? /\ v.ownBlock=some g:=by
 rcases id h.2 with ⟨_,e⟩|⟨g,cap,A,rfl,_⟩
 ·subst e;simp at q
 ·exact⟨g,cap,rfl,h.cellAt j q,rfl⟩
theorem D9{α:Type}(f g h:α->Int):∀ (l:List α) (i:Nat) (hi:i<l.length),(l.flatMap λu=>Lq (f u) (g u) (h u))[i*3]?=some (.int .i16 (f l[i]))/\(l.flatMap λu=>Lq (f u) (g u) (h u))[i*3+1]?=some (.int .i16 (g l[i]))/\(l.flatMap λu=>Lq (f u) (g u) (h u))[i*3+2]?=some (.int .i16 (h l[i]))
 | x::l,0,_=>⟨rfl,rfl,rfl⟩
 | x::l,i+1,hi=>by
  have:=D9 f g h l i (by simpa using hi);have e:(x::l).flatMap (λu=>Lq (f u) (g u) (h u))=.int .i16 (f x) :: .int .i16 (g x) :: .int .i16 (h x)::l.flatMap (λu=>Lq (f u) (g u) (h u)):=rfl;rw[e,(Om:(i+1)*3=i*3+1+1+1),(Om:i*3+1+1+1+1=(i*3+1)+1+1+1),(Om:i*3+1+1+1+2=(i*3+2)+1+1+1)];simp only[List.getElem?_cons_succ,List.getElem_cons_succ];exact this
variable{d:Zg}{kd H U:Nat}{w:World}
theorem Bp:(Zw d).length=d.words.length:=(Z0 _ _).length_eq
theorem Wo:(Ze d).length=d.unknown.length:=(Z0 _ _).length_eq
theorem Zz.lt(h:Zz d kd H U w):H<=kd/\kd<U/\U<=w.heap.size:=by
 obtain⟨W,cc,V,gl,g,n,Z,ko,X,Y,M,G,v0,J,v4,I,A,v12,q,L,K,h⟩:=h;obtain⟨F,h1,h2⟩:=h.get 0 (by simp[Zt,Z4,Zn]);have:=h2 kd h1.2;exact⟨this.1,this.2,h.1⟩
theorem Zz.known(h:Zz d kd H U w)(i:Nat)(hi:i<(Zw d).length):∃ A c,w.cell? ⟨kd,0,none⟩=some (.slice (some ⟨A,0,none⟩) (Zw d).length c)/\(H<=A/\A<U) /\
  w.cell? ⟨A,i*3,none⟩=some (.int .i16 (Zw d)[i].left)/\w.cell? ⟨A,i*3+1,none⟩=some (.int .i16 (Zw d)[i].right)/\w.cell? ⟨A,i*3+2,none⟩=some (.int .i16 (Zw d)[i].weight):=by
 obtain⟨mm,cc,mp,gl,g,n,mb,ko,mi,md,mu,vk,v0,v1,v4,v7,K,v12,J,u0,u4,h⟩:=h;obtain⟨F0,Y,_⟩:=h.get 0 (by simp[Zt,Z4,Zn]);obtain⟨F,h1,h2⟩:=h.get 5 (by simp[Zt,Z4,Zn]);have q:=h1.1;obtain⟨A,c,e,_,X⟩:=Tx q (i*3) Om
 have G:=λj (W:j<(Zw d).length*3)=>(show w.cell? ⟨A,j,none⟩=(Zft (Zw d))[j]? by
  obtain⟨aa,c',I,Z,_⟩:=Tx q j W;rw[e]at I;simp only[Value.slice.injEq,Option.some.injEq,Addr.mk.injEq]at I
  rw[I.1.1];exact Z)
 obtain⟨V,M,L⟩:=D9 GWord.left GWord.right GWord.weight (Zw d) i hi;refine⟨A,c,by rw[<- e];exact Zb Y.1 0 _ rfl,h2 A (h1.2 A X),?_,?_,?_⟩
 ·rw[G _ Om];exact V
 ·rw[G _ Om];exact M
 ·rw[G _ Om];exact L
theorem Zz.unk(h:Zz d kd H U w)(i:Nat)(hi:i<(Ze d).length):∃ A c,w.cell? ⟨kd,14,none⟩=some (.slice (some ⟨A,0,none⟩) (Ze d).length c)/\(H<=A/\A<U) /\
  w.cell? ⟨A,i*3,none⟩=some (.int .i16 (Ze d)[i].left)/\w.cell? ⟨A,i*3+1,none⟩=some (.int .i16 (Ze d)[i].right)/\w.cell? ⟨A,i*3+2,none⟩=some (.int .i16 (Ze d)[i].weight):=by
 obtain⟨mm,cc,mp,gl,g,n,mb,ko,mi,md,mu,vk,v0,v1,v4,v7,K,v12,J,u0,u4,h⟩:=h;obtain⟨F0,Y,_⟩:=h.get 0 (by simp[Zt,Z4,Zn]);obtain⟨F,h1,h2⟩:=h.get 15 (by simp[Zt,Z4,Zn]);have hl:=Wo (d:=d);have q:=h1.1;rw[<- hl,List.take_length]at q;obtain⟨A,c,e,_,X⟩:=Tx q (i*3) Om
 have G:=λj (W:j<(Ze d).length*3)=>(show w.cell? ⟨A,j,none⟩=(Jz (Ze d))[j]? by
  obtain⟨aa,c',I,Z,_⟩:=Tx q j W;rw[e]at I;simp only[Value.slice.injEq,Option.some.injEq,Addr.mk.injEq]at I
  rw[I.1.1];exact Z)
 obtain⟨V,M,L⟩:=D9 GUnk.left GUnk.right GUnk.weight (Ze d) i hi;refine⟨A,c,by rw[<- e];exact Zb Y.1 14 _ rfl,h2 A (h1.2 A X),?_,?_,?_⟩
 ·rw[G _ Om];exact V
 ·rw[G _ Om];exact M
 ·rw[G _ Om];exact L
theorem Zz.index(h:Zz d kd H U w):∃ g n q,w.cell? ⟨kd,8,none⟩=some (.slice (some ⟨g,0,none⟩) n n)/\w.cell? ⟨kd,9,none⟩=some (.map (some q))/\Tb w g n q ((Zw d).map GWord.surface)/\(H<=g/\g<U)/\(H<=q/\q<U):=by
 obtain⟨Y,cc,X,gl,g,n,q,ko,Z,md,W,J,v0,L,v4,K,I,v12,G,V,M,h⟩:=h;obtain⟨F0,A,_⟩:=h.get 0 (by simp[Zt,Z4,Zn]);obtain⟨F,h1,h2⟩:=h.get 10 (by simp[Zt,Z4,Zn]);exact⟨g,n,q,Zb A.1 8 _ rfl,Zb A.1 9 _ rfl,h1.1,h2 g h1.2.1,h2 q h1.2.2⟩
theorem Zz.cat(h:Zz d kd H U w):∃ q,w.cell? ⟨kd,11,none⟩=some (.slice (some ⟨q,0,none⟩) 65536 65536)/\∀ i,i<65536->w.cell? ⟨q,i,none⟩=some (.int .u8 (Td d.chars i)):=by
 obtain⟨Y,q,X,gl,g,n,mb,ko,Z,md,W,J,v0,L,v4,K,G,v12,A,V,M,h⟩:=h;obtain⟨F0,I,_⟩:=h.get 0 (by simp[Zt,Z4,Zn]);obtain⟨F,h1,h2⟩:=h.get 2 (by simp[Zt,Z4,Zn]);exact⟨q,Zb I.1 11 _ rfl,λi hi=>h1.1.cell hi⟩
theorem Zz.invoke(h:Zz d kd H U w)(i:Nat)(hi:i<d.classes.length):∃ g c,w.cell? ⟨kd,12,none⟩=some (.slice (some ⟨g,0,none⟩) d.classes.length c)/\w.cell? ⟨g,i,none⟩=some (.bool d.classes[i].invoke):=by
 obtain⟨Y,cc,X,gl,g,n,mb,ko,Z,md,W,J,v0,L,v4,K,A,v12,q,V,M,h⟩:=h;obtain⟨F0,G,_⟩:=h.get 0 (by simp[Zt,Z4,Zn]);obtain⟨F,h1,h2⟩:=h.get 12 (by simp[Zt,Z4,Zn]);obtain⟨I,c,e,h3,hb⟩:=Tx h1.1 i Om;exact⟨I,c,by rw[<- e];exact Zb G.1 12 _ rfl,by rw[h3];simp[hi]⟩
theorem Zz.group(h:Zz d kd H U w)(i:Nat)(hi:i<d.classes.length):∃ g c,w.cell? ⟨kd,13,none⟩=some (.slice (some ⟨g,0,none⟩) d.classes.length c)/\w.cell? ⟨g,i,none⟩=some (.bool d.classes[i].group):=by
 obtain⟨Y,cc,X,gl,g,n,mb,ko,Z,md,W,J,v0,L,v4,K,A,v12,q,V,M,h⟩:=h;obtain⟨F0,G,_⟩:=h.get 0 (by simp[Zt,Z4,Zn]);obtain⟨F,h1,h2⟩:=h.get 13 (by simp[Zt,Z4,Zn]);obtain⟨I,c,e,h3,hb⟩:=Tx h1.1 i Om;exact⟨I,c,by rw[<- e];exact Zb G.1 13 _ rfl,by rw[h3];simp[hi]⟩
theorem Zz.maps(h:Zz d kd H U w):∃ A G,w.cell? ⟨kd,15,none⟩=some (.map (some A))/\w.cell? ⟨kd,16,none⟩=some (.map (some G))/\Zq Tm A (V1 (Ze d)).1 w/\Zq Tm G (V1 (Ze d)).2 w:=by
 obtain⟨mm,cc,mp,gl,g,n,mb,ko,A,G,mu,V,v0,X,v4,W,M,v12,L,Z,Y,h⟩:=h;obtain⟨F0,K,_⟩:=h.get 0 (by simp[Zt,Z4,Zn]);obtain⟨F,h1,h2⟩:=h.get 16 (by simp[Zt,Z4,Zn]);obtain⟨F',I,_⟩:=h.get 17 (by simp[Zt,Z4,Zn]);have hl:=Wo (d:=d);have q:=h1.1;have J:=I.1;rw[<- hl]at q J;exact⟨A,G,Zb K.1 15 _ rfl,Zb K.1 16 _ rfl,q,J⟩
theorem Zz.conn(h:Zz d kd H U w):w.cell? ⟨kd,5,none⟩=some (.int .i64 d.rows)/\∀ i (hi:i<d.costs.length),∃ g c,w.cell? ⟨kd,7,none⟩=some (.slice (some ⟨g,0,none⟩) d.costs.length c)/\w.cell? ⟨g,i,none⟩=some (.int .i16 d.costs[i]):=by
 obtain⟨Y,cc,X,gl,g,n,mb,ko,Z,md,W,J,v0,L,v4,K,G,v12,A,V,M,h⟩:=h;obtain⟨F0,q,_⟩:=h.get 0 (by simp[Zt,Z4,Zn]);obtain⟨F,h1,h2⟩:=h.get 9 (by simp[Zt,Z4,Zn]);refine⟨Zb q.1 5 _ rfl,λi hi=>?_⟩;obtain⟨I,c,e,h3,hb⟩:=Tx h1.1 i Om;exact⟨I,c,by rw[<- e];exact Zb q.1 7 _ rfl,by rw[h3];simp[Wt,hi]⟩
end
section
open Go.RowKit DT SS TR LT
structure Zcf(d:Zg)(kd H U kl g R c bl br bq bi:Nat)(s:ByteArray)(k pos:Nat)(w:World):Prop where
 la:w.cell? ⟨bl,0,none⟩=some (.pointer (some ⟨kl,0,none⟩))
 rp:w.cell? ⟨br,0,none⟩=some (.int .i64 k)
 ps:w.cell? ⟨bq,0,none⟩=some (.int .i64 pos)
 inp:w.cell? ⟨bi,0,none⟩=some (.string s)
 list:w.cell? ⟨kl,2,none⟩=some (.slice (some ⟨g,0,none⟩) R c)
 dic:w.cell? ⟨kl,3,none⟩=some (.pointer (some ⟨kd,0,none⟩))
 dict:Zz d kd H U w
def Jg(U h A br q G:Nat)(j:Nat):Prop:=U<=j/\j≠h/\j≠A/\j≠br/\j≠q/\j≠G
theorem Zcf.keep{d:Zg}{kd H U A g R c I br G J:Nat}{s:ByteArray}{k pos:Nat}{w w':World}{S:Nat->Prop}(h:Zcf d kd H U A g R c I br G J s k pos w)(f:Fr S w w')(q:∀ j,S j->Jg U A I br G J j):Zcf d kd H U A g R c I br G J s k pos w' :=
 ⟨f.cell h.la (λe=>(q _ e).2.2.1 rfl),f.cell h.rp (λe=>(q _ e).2.2.2.1 rfl),f.cell h.ps (λe=>(q _ e).2.2.2.2.1 rfl),f.cell h.inp (λe=>(q _ e).2.2.2.2.2 rfl),f.cell h.list (λe=>(q _ e).2.1 rfl),f.cell h.dic (λe=>(q _ e).2.1 rfl),h.dict.keep f (λb _ K e=>by have:=(q _ e).1;omega)⟩
def M1(d:Zg)(cls:Nat)(id:Nat)(m:Wj):Prop :=
 (cls=3/\m=zeroM)\/(cls=1/\∃ h:id<(Zw d).length,m=⟨(Zw d)[id].left,(Zw d)[id].right,(Zw d)[id].weight⟩)\/(cls=2/\∃ h:id<(Ze d).length,m=⟨(Ze d)[id].left,(Ze d)[id].right,(Ze d)[id].weight⟩)
theorem Ir{d:Zg}{kd H U I cls id:Nat}{m:Wj}{w:World}(q:Zl d=true)(h:Zz d kd H U w)(J:w.cell? ⟨I,3,none⟩=some (.pointer (some ⟨kd,0,none⟩)))(L:M1 d cls id m):Zfn w I cls id m:=by
 have K:=Vb q;rcases L with ⟨rfl,rfl⟩|⟨rfl,hi,rfl⟩|⟨rfl,hi,rfl⟩
 ·exact .inl ⟨.inr rfl,rfl⟩
 ·obtain⟨G,c,h1,_,h2,h3,h4⟩:=h.known id hi;have A:=Tj q (Zw d)[id] ((Z0 _ _).mem_iff.1 (List.getElem_mem hi));exact .inr ⟨kd,G,_,c,id,J,rfl,hi,.inl ⟨rfl,h1⟩,h2,h3,h4,by dsimp only;omega,by dsimp only;omega,A.2.2.1⟩
 ·obtain⟨G,c,h1,_,h2,h3,h4⟩:=h.unk id hi;have A:=Lj q (Ze d)[id] ((Z0 _ _).mem_iff.1 (List.getElem_mem hi));exact .inr ⟨kd,G,_,c,id,J,rfl,hi,.inr ⟨rfl,h1⟩,h2,h3,h4,by dsimp only;omega,by dsimp only;omega,A.2.2.2⟩
def Z7(s:ByteArray)(k pos cls:Nat)(h:Nat->Wj)(L:List (Nat×Nat)):List Nd:=L.map λx=>Xq s k pos cls (h x.1) x.1 x.2
def K9(U A I br G J g R:Nat)(ns:List Nd)(O:Nat->Prop)(w:World):Prop :=
 ∃ h q,Yp w g R h ns q (λ_=>0) (λ_=>none)/\(∀ j,Yz g R h j->Jg U A I br G J j)/\(∀ j,O j↔Yz g R h j)/\∀ m,m<ns.length->U<=q m
theorem K9.keep{U G K br J L g R:Nat}{ns:List Nd}{O S:Nat->Prop}{w w':World}(h:K9 U G K br J L g R ns O w)(f:Fr S w w')(I:∀ j,S j->¬ O j/\∀ A q,Yp w g R A ns q (λ_=>0) (λ_=>none)->∀ m,m<ns.length->q m≠j):K9 U G K br J L g R ns O w':=by
 obtain⟨A,q,h1,h2,h3,h4⟩:=h;exact⟨A,q,h1.keep f (λj V e=>(I j e).1 ((h3 j).2 V)) (λm M e=>(I _ e).2 A q h1 m M rfl),h2,h3,h4⟩
theorem K9.ext{U q G br A I g R:Nat}{ns:List Nd}{O:Nat->Prop}{w w':World}(h:K9 U q G br A I g R ns O w)(f:Zf w w'):K9 U q G br A I g R ns O w':=h.keep f (λj e=>e.elim)
def CbJ(d:Zg)(kd H U h g R c A br q G ba:Nat)(s:ByteArray)(k pos cls:Nat)(I:Nat->Wj)(ns:List Nd)(L:List (Nat×Nat))(O:Nat->Prop)(m:Nat)(w:World):Prop :=
 Zcf d kd H U h g R c A br q G s k pos w/\(w.cell? ⟨ba,0,none⟩=some (.bool (decide (0<m)))/\w.frozen? ⟨ba,0,none⟩=false)/\∃ O',K9 U h A br q G g R (ns++Z7 s k pos cls I (L.take m)) O' w/\¬ O' ba/\∀ j,O j↔(O' j\/j=ba)
theorem Zi9{w:World}{g R:Nat}{A:Nat->Value}{ns:List Nd}{q:Nat->Nat}{cost:Nat->Int}{prev:Nat->Option Nat}(h:Yp w g R A ns q cost prev){b:Nat}{x:Bool}(I:w.cell? ⟨b,0,none⟩=some (.bool x))(m:Nat)(G:m<ns.length):q m≠b:=by
 intro e;have h1:=h.node m G;rw[e]at h1;simp[World.cell?,h1,Xm]at I
theorem Zcf.new{d:Zg}{kd H U q g R c G br A I:Nat}{s:ByteArray}{k pos:Nat}{w:World}(h:Zcf d kd H U q g R c G br A I s k pos w){j:Nat}(X:w.heap.size<=j):Jg U q G br A I j:=by
 have V:=lt_of_cell h.la;have M:=lt_of_cell h.rp;have L:=lt_of_cell h.ps;have K:=lt_of_cell h.inp;have J:=lt_of_cell h.list;have W:=h.dict.lt;simp only at V M L K J;exact⟨Om,Om,Om,Om,Om,Om⟩
theorem Mv{d:Zg}{kd H U I g R c V br M W ba:Nat}{s:ByteArray}{k pos cls m:Nat}{Z:Nat->Wj}{ns:List Nd}{L:List (Nat×Nat)}{O O1:Nat->Prop}{w X G:World}{Y h:Nat->Value}{A:Nat->Nat}{x0:Bool}
  (hF:Zcf d kd H U I g R c V br M W s k pos w) (h2:∀ j,Yz g R Y j->Jg U I V br M W j) (aa:¬ O1 ba) (K:∀ j,O j↔(O1 j\/j=ba)) (h3:∀ j,O1 j↔Yz g R Y j) (ac:Jg U I V br M W ba) (ae:ba<w.heap.size)
  (a1:Yp X g R h (ns++Z7 s k pos cls Z (L.take (m+1))) A (λ_=>0) (λ_=>none)) (a2:Fr (Yz g R Y) w X) (a3:∀ j,Yz g R h j->Yz g R Y j\/w.heap.size<=j) (ad:X.cell? ⟨ba,0,none⟩=some (.bool x0)) (a4:∀ q,q<(ns++Z7 s k pos cls Z (L.take (m+1))).length->U<=A q)
  (hf:Fr (λj=>j=ba) X G) (hz:G.cell? ⟨ba,0,none⟩=some (.bool true)) (ab:G.frozen? ⟨ba,0,none⟩=false) :
  ∃ O',CbJ d kd H U I g R c V br M W ba s k pos cls Z ns L O' (m+1) G/\(∀ b,O' b->O b\/w.heap.size<=b)/\Fr O w G:=by
 have FZ:Fr O w G:=(a2.mono (S':=O) (λj _ e=>(K j).2 (.inl ((h3 j).2 e)))).then (hf.mono (λj _ e=>(K j).2 (.inr e)));have hS:∀ j,O j->Jg U I V br M W j:=λj e=>((K j).1 e).elim (λq=>h2 j ((h3 j).1 q)) (λq=>q▸ac)
 have J:¬ Yz g R h ba:=λe=>(a3 ba e).elim (λq=>aa ((h3 ba).2 q)) (λq=>Om)
 refine⟨λj=>Yz g R h j\/j=ba,⟨hF.keep FZ hS,⟨by rw[hz];simp,ab⟩,Yz g R h,⟨h,A,a1.keep hf (λj hj e=>J (e▸hj)) (λq hq e=>Zi9 a1 ad q hq e),λj hj=>(a3 j hj).elim (h2 j) hF.new,λj=>Iff.rfl,a4⟩,J,λj=>Iff.rfl⟩,?_,FZ⟩;rintro j (e|e)
 ·exact (a3 j e).imp (λq=>(K j).2 (.inl ((h3 j).2 q))) id
 ·exact .inl ((K j).2 (.inr e))
def Hl(d:Zg)(s:ByteArray)(k pos cls R:Nat)(h:Nat->Wj)(L:List (Nat×Nat)):Prop :=
 ∀ x∈L,M1 d cls x.1 (h x.1)/\pos+x.2<=s.size/\k+Lib.runeCount (s.extract pos (pos+x.2))<R/\x.1<=1000000
theorem Zms(d:Zg)(hr:Zl d=true)(kd H U Y g R c bl br bq bi ba:Nat)(s:ByteArray)(k pos:Nat)(A:Nat->Wj)(ns:List Nd)(L:List (Nat×Nat))(hL:Hl d s k pos 3 R A L)(hR:R<=1000000)(hs:s.size<=1000000)(hn:ns.length+L.length<=1000000000)(hp:pos<=s.size)(hk:k<=1000000)
  (ag:Jg U Y bl br bq bi ba) (O:Nat->Prop) (m:Nat) (hm:m<L.length) (w:World) (h:CbJ d kd H U Y g R c bl br bq bi ba s k pos 3 A ns L O m w) :
  Calls Tryz.prog 192 #[.int .i64 (L[m].1:Int),.int .i64 (L[m].2:Int),.pointer (some ⟨bl,0,none⟩),.pointer (some ⟨br,0,none⟩),.pointer (some ⟨bq,0,none⟩),.pointer (some ⟨bi,0,none⟩),.pointer (some ⟨ba,0,none⟩)] w λe w'=>e=.returned (.tuple #[])/\∃ O',CbJ d kd H U Y g R c bl br bq bi ba s k pos 3 A ns L O' (m+1) w'/\(∀ b,O' b->O b\/w.heap.size<=b)/\Fr O w w':=by
 obtain⟨hF,⟨ha,hf⟩,O1,V,J,hO⟩:=h;obtain⟨ac,ah,M,ai⟩:=hL L[m] (List.getElem_mem hm);obtain⟨Z,nb,h1,h2,h3,h4⟩:=id V;have ae:¬ Yz g R Z Y:=λe=>(h2 _ e).2.1 rfl
 have C1:∀ q,Calls Tryz.prog 190 #[.pointer (some ⟨Y,0,none⟩),.int .i64 k,.int .i64 (L[m].1:Int),.int .i64 pos,.int .i64 k,.int .i64 3,.string (s.extract pos (pos+L[m].2))] (w.drewN q) λe w'=>e=.returned (.tuple #[])/\∃ I G,Yp w' g R I (ns++Z7 s k pos 3 A (L.take (m+1))) G (λ_=>0) (λ_=>none)/\Fr (Yz g R Z) w w'/\(∀ j,Yz g R I j->Yz g R Z j\/w.heap.size<=j)/\∀ q,q<(ns++Z7 s k pos 3 A (L.take (m+1))).length->U<=G q:=by
  intro q;have X:Zf w (w.drewN q):=(Fl w).drewN q;have ad:(ns++Z7 s k pos 3 A (L.take m)).length<=1000000000:=by simp[Z7];omega
  have ab:(s.extract pos (pos+L[m].2)).size<=1000000:=by rw[ByteArray.size_extract];omega
  have e1:Z7 s k pos 3 A (L.take (m+1))=Z7 s k pos 3 A (L.take m)++[Xq s k pos 3 (A L[m].1) L[m].1 L[m].2]:=by
   rw[List.take_succ_eq_append_getElem hm];simp only[Z7,List.map_append,List.map_cons,List.map_nil]
  refine (Uy Y g R c Z (ns++Z7 s k pos 3 A (L.take m)) nb (Xq s k pos 3 (A L[m].1) L[m].1 L[m].2) k (w.drewN q) (X.cell hF.list id) hR (h1.ext X) ae ad (Ir hr (hF.dict.keep X (λ_ _ _=>id)) (X.cell hF.dic id) ac) ab rfl M ⟨by show pos<=1000000;omega,hk⟩).mono ?_;rintro e w' ⟨rfl,I,G,W,a2,a3,a4,a5⟩;refine⟨rfl,I,G,?_,((X.mono (S':=Yz g R Z) (λ_ _ e=>e.elim)).then a2),λj e=>(a3 j e).imp id (λq=>q),λq hq=>?_⟩;rotate_left
  ·rw[e1,<- List.append_assoc,List.length_append,List.length_singleton]at hq;rcases Nat.lt_or_ge q (ns++Z7 s k pos 3 A (L.take m)).length with z|z
   ·rw[a4 q z];exact h4 q z
   ·have ez:q=(ns++Z7 s k pos 3 A (L.take m)).length:=Om;rw[ez];have ak:w.heap.size<=G (ns++Z7 s k pos 3 A (L.take m)).length:=a5;have:=hF.dict.lt;omega
  rw[e1,<- List.append_assoc];exact W
 have la:=hF.la;have rp:=hF.rp;have ps:=hF.ps;have inp:=hF.inp;have HH:=Hd (Ai1 hF (Ai1 h2 (Ai1 J (Ai1 hO (Ai1 h3 V)))));have C1:Hid _:=C1;obtain⟨x,hx⟩:∃ x,x=L[m].1:=⟨_,rfl⟩;obtain⟨l,hl⟩:∃ l,l=L[m].2:=⟨_,rfl⟩;rw[<- hx,<- hl]at C1⊢;rw[<- hl]at ah;have ab:(s.size:Int)<=1000000:=Om
 have g1:(0:Int)<=(pos:Int)+(l:Int):=Om
 have g2:(pos:Int)<=(pos:Int)+(l:Int):=Om
 have g3:(pos:Int)+(l:Int)<=(s.size:Int):=Om
 have g4:((pos:Int)+(l:Int)).toNat=pos+l:=Om
 have aj:IntKind.i64.wrap ((pos:Int)+(l:Int))=(pos:Int)+(l:Int):=by rw[IntKind.wrap_i64];omega
 have aa:ba<w.heap.size:=lt_of_cell ha;clear hF h1 h2 h3 h4 V ac M ai hO J hL ae hx hl;go_enter Tryz.func192,Tryz.ntmps192
 go_upto_region 0 with fail
 go_still_tail 11,Kr
 change wpList _ _ _ _ _ w.drew;go_wp2_with (go_at_call 190;refine (C1.out 1).mono ?_;rintro e w2 ⟨rfl,I,G,W,a2,a3,a4⟩;have HA:=Hd (Ai1 W (Ai1 a2 (Ai1 a3 a4)));have K:=a2.cell ha (λe=>HH.out.2.2.1 ((HH.out.2.2.2.2.1 _).2 e));have af:=(a2.frozen ha (λe=>HH.out.2.2.1 ((HH.out.2.2.2.2.1 _).2 e))).trans hf;clear W a2 a3 a4)
 all_goals go_end0
 all_goals obtain⟨hF,h2,J,hO,h3,_⟩:=HH.out
 all_goals obtain⟨W,a2,a3,a4⟩:=HA.out
 ·refine⟨rfl,Mv hF h2 J hO h3 ag aa W a2 a3 K a4 ((Fr.refl (λj=>j=ba) w2).setCell ⟨ba,0,none⟩ _ (λ_=>rfl)) ?_ ?_⟩
  ·exact World.cell?_setCell_same _ _ _ K
  ·rw[World.frozen?_setCell];exact af
 ·refine⟨rfl,Mv hF h2 J hO h3 ag aa W a2 a3 K a4 (Fl _) ?_ af⟩;rw[K];simpa using ‹(!decide (0<m))=false›
theorem Zmt(d:Zg)(hr:Zl d=true)(kd H U Y g R c bl br bq bi ba:Nat)(s:ByteArray)(k pos:Nat)(A:Nat->Wj)(ns:List Nd)(L:List (Nat×Nat))(hL:Hl d s k pos 1 R A L)(hR:R<=1000000)(hs:s.size<=1000000)(hn:ns.length+L.length<=1000000000)(hp:pos<=s.size)(hk:k<=1000000)
  (ag:Jg U Y bl br bq bi ba) (O:Nat->Prop) (m:Nat) (hm:m<L.length) (w:World) (h:CbJ d kd H U Y g R c bl br bq bi ba s k pos 1 A ns L O m w) :
  Calls Tryz.prog 193 #[.int .i64 (L[m].1:Int),.int .i64 (L[m].2:Int),.pointer (some ⟨bl,0,none⟩),.pointer (some ⟨br,0,none⟩),.pointer (some ⟨bq,0,none⟩),.pointer (some ⟨bi,0,none⟩),.pointer (some ⟨ba,0,none⟩)] w λe w'=>e=.returned (.tuple #[])/\∃ O',CbJ d kd H U Y g R c bl br bq bi ba s k pos 1 A ns L O' (m+1) w'/\(∀ b,O' b->O b\/w.heap.size<=b)/\Fr O w w':=by
 obtain⟨hF,⟨ha,hf⟩,O1,V,J,hO⟩:=h;obtain⟨ac,ah,M,ai⟩:=hL L[m] (List.getElem_mem hm);obtain⟨Z,nb,h1,h2,h3,h4⟩:=id V;have ae:¬ Yz g R Z Y:=λe=>(h2 _ e).2.1 rfl
 have C1:∀ q,Calls Tryz.prog 190 #[.pointer (some ⟨Y,0,none⟩),.int .i64 k,.int .i64 (L[m].1:Int),.int .i64 pos,.int .i64 k,.int .i64 1,.string (s.extract pos (pos+L[m].2))] (w.drewN q) λe w'=>e=.returned (.tuple #[])/\∃ I G,Yp w' g R I (ns++Z7 s k pos 1 A (L.take (m+1))) G (λ_=>0) (λ_=>none)/\Fr (Yz g R Z) w w'/\(∀ j,Yz g R I j->Yz g R Z j\/w.heap.size<=j)/\∀ q,q<(ns++Z7 s k pos 1 A (L.take (m+1))).length->U<=G q:=by
  intro q;have X:Zf w (w.drewN q):=(Fl w).drewN q;have ad:(ns++Z7 s k pos 1 A (L.take m)).length<=1000000000:=by simp[Z7];omega
  have ab:(s.extract pos (pos+L[m].2)).size<=1000000:=by rw[ByteArray.size_extract];omega
  have e1:Z7 s k pos 1 A (L.take (m+1))=Z7 s k pos 1 A (L.take m)++[Xq s k pos 1 (A L[m].1) L[m].1 L[m].2]:=by
   rw[List.take_succ_eq_append_getElem hm];simp only[Z7,List.map_append,List.map_cons,List.map_nil]
  refine (Uy Y g R c Z (ns++Z7 s k pos 1 A (L.take m)) nb (Xq s k pos 1 (A L[m].1) L[m].1 L[m].2) k (w.drewN q) (X.cell hF.list id) hR (h1.ext X) ae ad (Ir hr (hF.dict.keep X (λ_ _ _=>id)) (X.cell hF.dic id) ac) ab rfl M ⟨by show pos<=1000000;omega,hk⟩).mono ?_;rintro e w' ⟨rfl,I,G,W,a2,a3,a4,a5⟩;refine⟨rfl,I,G,?_,((X.mono (S':=Yz g R Z) (λ_ _ e=>e.elim)).then a2),λj e=>(a3 j e).imp id (λq=>q),λq hq=>?_⟩;rotate_left
  ·rw[e1,<- List.append_assoc,List.length_append,List.length_singleton]at hq;rcases Nat.lt_or_ge q (ns++Z7 s k pos 1 A (L.take m)).length with z|z
   ·rw[a4 q z];exact h4 q z
   ·have ez:q=(ns++Z7 s k pos 1 A (L.take m)).length:=Om;rw[ez];have ak:w.heap.size<=G (ns++Z7 s k pos 1 A (L.take m)).length:=a5;have:=hF.dict.lt;omega
  rw[e1,<- List.append_assoc];exact W
 have la:=hF.la;have rp:=hF.rp;have ps:=hF.ps;have inp:=hF.inp;have HH:=Hd (Ai1 hF (Ai1 h2 (Ai1 J (Ai1 hO (Ai1 h3 V)))));have C1:Hid _:=C1;obtain⟨x,hx⟩:∃ x,x=L[m].1:=⟨_,rfl⟩;obtain⟨l,hl⟩:∃ l,l=L[m].2:=⟨_,rfl⟩;rw[<- hx,<- hl]at C1⊢;rw[<- hl]at ah;have ab:(s.size:Int)<=1000000:=Om
 have g1:(0:Int)<=(pos:Int)+(l:Int):=Om
 have g2:(pos:Int)<=(pos:Int)+(l:Int):=Om
 have g3:(pos:Int)+(l:Int)<=(s.size:Int):=Om
 have g4:((pos:Int)+(l:Int)).toNat=pos+l:=Om
 have aj:IntKind.i64.wrap ((pos:Int)+(l:Int))=(pos:Int)+(l:Int):=by rw[IntKind.wrap_i64];omega
 have aa:ba<w.heap.size:=lt_of_cell ha;clear hF h1 h2 h3 h4 V ac M ai hO J hL ae hx hl;go_enter Tryz.func193,Tryz.ntmps193
 go_upto_region 0 with fail
 go_still_tail 11,Kr
 change wpList _ _ _ _ _ w.drew;go_wp2_with (go_at_call 190;refine (C1.out 1).mono ?_;rintro e w2 ⟨rfl,I,G,W,a2,a3,a4⟩;have HA:=Hd (Ai1 W (Ai1 a2 (Ai1 a3 a4)));have K:=a2.cell ha (λe=>HH.out.2.2.1 ((HH.out.2.2.2.2.1 _).2 e));have af:=(a2.frozen ha (λe=>HH.out.2.2.1 ((HH.out.2.2.2.2.1 _).2 e))).trans hf;clear W a2 a3 a4)
 all_goals go_end0
 all_goals obtain⟨hF,h2,J,hO,h3,_⟩:=HH.out
 all_goals obtain⟨W,a2,a3,a4⟩:=HA.out
 ·refine⟨rfl,Mv hF h2 J hO h3 ag aa W a2 a3 K a4 ((Fr.refl (λj=>j=ba) w2).setCell ⟨ba,0,none⟩ _ (λ_=>rfl)) ?_ ?_⟩
  ·exact World.cell?_setCell_same _ _ _ K
  ·rw[World.frozen?_setCell];exact af
 ·refine⟨rfl,Mv hF h2 J hO h3 ag aa W a2 a3 K a4 (Fl _) ?_ af⟩;rw[K];simpa using ‹(!decide (0<m))=false›
end
end Go.Proofs.YtlfoalomaofejaaGreatDoor
