/- add: a node's keys in groups b -/
import Derived.Test.YtlfoalomaofejaaGreatDoorM11
import Derived.Laws.IdiomStrings
import Derived.Deep.CutBlock
set_option linter.all false
set_option maxRecDepth 100000
set_option maxHeartbeats 1000000
namespace Go.Proofs.YtlfoalomaofejaaGreatDoor
section
open Go.RowKit TR
abbrev Lt:UInt8->Value:=λc=>Value.int .u8 (c.toNat:Int)
def V3(kws:List ByteArray)(i j:Nat):List UInt8:=((kws[j]?).getD ByteArray.empty).data.toList.drop i
def Yw(kws:List ByteArray)(i j:Nat):UInt8:=(V3 kws i j).headD 0
def Sq(kws:List ByteArray)(ids:List Nat)(i j:Nat):Key:=(V3 kws i j,(ids[j]?).getD 0)
abbrev Zx(kws:List ByteArray)(ids:List Nat)(i:Nat)(bs:List Nat):List Key:=bs.map (Sq kws ids i)
abbrev No(kws:List ByteArray)(i:Nat)(bs:List Nat)(c:UInt8):List Nat:=bs.filter λj=>Yw kws i j==c
theorem Zjs(kws:List ByteArray)(ids:List Nat)(i j:Nat):hd (Sq kws ids i j)=Yw kws i j:=rfl
theorem Zah{kws:List ByteArray}{i j:Nat}{a:UInt8}{t:List UInt8}(h:V3 kws i j=a::t):V3 kws (i+1) j=t:=by
 unfold V3 at h⊢;rw[<- List.drop_drop,h];rfl
theorem Rg(kws:List ByteArray)(ids:List Nat)(i:Nat)(bs:List Nat){c:UInt8}(z:c≠0):strip c (Zx kws ids i bs)=Zx kws ids (i+1) (No kws i bs c):=by
 induction bs with
 | nil=>rfl
 | cons j bs ih =>
  rw[show Zx kws ids i (j::bs)=Sq kws ids i j::Zx kws ids i bs from rfl,Uj,ih];simp only[No,List.filter_cons];have e:(Sq kws ids i j).1=V3 kws i j:=rfl;rw[e]
  cases q:V3 kws i j with
  | nil =>
   have:Yw kws i j=0:=(by simp[Yw,q]);rw[this,if_neg (by simpa using Ne.symm z)];rfl
  | cons a t =>
   have:Yw kws i j=a:=(by simp[Yw,q]);rw[this];by_cases h:a=c
   ·subst h;simp[Sq,Zah q]
   ·simp[h]
theorem mem_hd{kws:List ByteArray}{ids:List Nat}{i:Nat}{bs:List Nat}{c:UInt8}:(∃ k∈Zx kws ids i bs,hd k=c)↔c∈bs.map (Yw kws i):=by
 constructor
 ·rintro⟨k,z,rfl⟩;obtain⟨j,q,rfl⟩:=List.mem_map.1 z;exact List.mem_map.2 ⟨j,q,rfl⟩
 ·intro h;obtain⟨j,q,rfl⟩:=List.mem_map.1 h;exact⟨_,List.mem_map.2 ⟨j,q,rfl⟩,rfl⟩
theorem Srt.first_end{q:Key}{ks:List Key}(h:Srt (q::ks)){i:Nat}(G:Vz (q::ks)=some i):i=q.2:=by
 obtain⟨k,A,z⟩:=Qp.1 ⟨i,G⟩
 have J:q.1=[]:=by
  rcases List.mem_cons.1 A with rfl|A
  ·exact z
  ·have:=(List.pairwise_cons.1 h).1 k A;rw[z]at this
   cases I:q.1 with
   | nil=>rfl
   | cons a t=>rw[I]at this;simp[lex]at this
 simp[Vz,J]at G;exact G.symm
structure Rows(kws:List ByteArray)(i base mb:Nat)(bs:List Nat)(l:List (UInt8×Value))(w:World):Prop where
 map:Zq Lt mb l w
 row:∀ c,(look l c=none/\(c=0\/No kws i bs c=[])) \/
  (c≠0/\∃ v g,look l c=some v/\v.ownBlock=some g/\No kws i bs c≠[]/\w.ownsRow base 3 1 v (No kws i bs c).length ((No kws i bs c).map λj=>.int .i64 ((j:Nat):Int)))
 apart:∀ c c' v v' g,look l c=some v->look l c'=some v'->v.ownBlock=some g->v'.ownBlock=some g->c=c'
variable{kws:List ByteArray}{i base mb:Nat}{bs:List Nat}{l:List (UInt8×Value)}{w w':World}
theorem Rows.at(h:Rows kws i base mb bs l w){c:UInt8}{v:Value}(hl:look l c=some v) :
  c≠0/\∃ g,v.ownBlock=some g/\No kws i bs c≠[]/\w.ownsRow base 3 1 v (No kws i bs c).length ((No kws i bs c).map λj=>.int .i64 ((j:Nat):Int)):=by
 rcases h.row c with ⟨h1,_⟩|⟨q,z,g,h1,h2,h3,h4⟩
 ·rw[hl]at h1;cases h1
 ·rw[hl]at h1;cases h1;exact⟨q,g,h2,h3,h4⟩
theorem Rows.none0(h:Rows kws i base mb bs l w):look l 0=none:=by
 rcases h.row 0 with ⟨h1,_⟩|⟨q,_⟩
 ·exact h1
 ·exact absurd rfl q
theorem Rl{S:Nat->Prop}{e:TypeId}{sz n:Nat}{v:Value}{xs:List Value}(h:w.ownsRow base e sz v n xs)(f:Fr S w w')(z:∀ g,v.ownBlock=some g->¬ S g):w'.ownsRow base e sz v n xs:=by
 obtain⟨h1,h2|⟨g,cap,q,rfl,A,a2,a3⟩⟩:=h
 ·exact⟨h1,.inl h2⟩
 ·exact⟨h1,.inr ⟨g,cap,q,rfl,A,f.heap a2 (z g rfl),a3⟩⟩
theorem Rows.keep(h:Rows kws i base mb bs l w){S:Nat->Prop}(f:Fr S w w')(A:¬ S mb)(z:∀ c v g,look l c=some v->v.ownBlock=some g->¬ S g):Rows kws i base mb bs l w':=by
 refine⟨h.map.keep f A,λc=>?_,h.apart⟩;rcases h.row c with h1|⟨G,v,g,h1,h2,h3,h4⟩
 ·exact .inl h1
 ·exact .inr ⟨G,v,g,h1,h2,h3,Rl h4 f (λI q=>z c v I h1 q)⟩
theorem Rows.alloc(h:Rows kws i base mb bs l w)(o:Obj):Rows kws i base mb bs l (w.alloc o):=h.keep ((Fe w).alloc o) id (λ_ _ _ _ _=>id)
theorem Rows.block(h:Rows kws i base mb bs l w){c:UInt8}{v:Value}{g:Nat}(hl:look l c=some v)(q:v.ownBlock=some g):base<=g/\g<w.heap.size:=by
 obtain⟨_,z,h2,_,h4⟩:=h.at hl;exact h4.lt g q
theorem Rows.skip(h:Rows kws i base mb bs l w){j:Nat}(z:Yw kws i j=0):Rows kws i base mb (bs++[j]) l w:=by
 have e:∀ c,c≠0->No kws i (bs++[j]) c=No kws i bs c:=λc q=>by simp[No,List.filter_append,z,Ne.symm q]
 refine⟨h.map,λc=>?_,h.apart⟩;by_cases q:c=0
 ·subst q;exact .inl ⟨h.none0,.inl rfl⟩
 ·rw[e c q];exact h.row c
theorem Rows.or_nil(h:Rows kws i base mb bs l w){c:UInt8}(q:c≠0) :
  w.ownsRow base 3 1 ((look l c).getD (.slice none 0 0)) (No kws i bs c).length ((No kws i bs c).map λj=>.int .i64 ((j:Nat):Int)):=by
 rcases h.row c with ⟨h1,h2⟩|⟨z,v,g,h1,h2,h3,h4⟩
 ·rw[h1,h2.resolve_left q];exact World.ownsRow_nil _ _ _ _
 ·rw[h1];exact h4
theorem Rows.map_grown{z:World}{o:Obj}{c:UInt8}(h:Rows kws i base mb bs l w)(q:(w.alloc o).grownBy z ((look l c).getD (.slice none 0 0)).ownBlock)(G:mb<base):Zq Lt mb l z:=by
 have f:Fr (λj=>some j=((look l c).getD (.slice none 0 0)).ownBlock) (w.alloc o) z:=⟨q.os,q.tape,q.output,q.size,λj I A=>q.block j I A⟩;refine (h.map.alloc o).keep f (λe=>?_)
 cases hl:look l c with
 | none=>rw[hl]at e;simp[Value.ownBlock]at e
 | some v =>
  rw[hl]at e;have:=(h.block hl e.symm).1;omega
theorem Rows.step{w1 w2:World}{V:Value}{j:Nat}{A:UInt8}(h:Rows kws i base mb bs l w)(ac:mb<base)(ae:base<=w.heap.size)(Z:Yw kws i j=A)(hc:A≠0)
  (J:w1.ownsRow base 3 1 V ((No kws i bs A).length+1) ((No kws i bs A).map (λj=>.int .i64 ((j:Nat):Int))++[.int .i64 ((j:Nat):Int)]))
  (hg:w.grownBy w1 ((look l A).getD (.slice none 0 0)).ownBlock) (ab:V.ownBlock=((look l A).getD (.slice none 0 0)).ownBlock\/V.ownBlock=some w.heap.size)
  (hm:Zq Lt mb (put l A V) w2) (hf:Fr (λk=>k=mb) w1 w2):Rows kws i base mb (bs++[j]) (put l A V) w2:=by
 have e:∀ c,No kws i (bs++[j]) c=if c=A then No kws i bs A++[j] else No kws i bs c:=λc=>by
  by_cases G:c=A
  ·subst G;simp[No,List.filter_append,Z]
  ·simp[No,List.filter_append,Z,G,Ne.symm G]
 obtain⟨Y,I⟩:∃ Y,V.ownBlock=some Y:=by
  obtain⟨_,⟨_,h0⟩|⟨g,_,_,rfl,_⟩⟩:=J
  ·omega
  ·exact⟨g,rfl⟩
 have L:∀ c v g,c≠A->look l c=some v->v.ownBlock=some g->some g≠((look l A).getD (.slice none 0 0)).ownBlock/\g≠Y/\g≠mb:=by
  intro c v g aa hl U;have hb:=h.block hl U
  have h1:some g≠((look l A).getD (.slice none 0 0)).ownBlock:=by
   intro q
   cases W:look l A with
   | none=>rw[W]at q;simp[Value.ownBlock]at q
   | some u =>
    rw[W]at q;exact aa (h.apart c A v u g hl W U q.symm)
  refine⟨h1,λq=>?_,Om⟩;subst q;rcases ab with q|q
  ·exact h1 (I.symm.trans q)
  ·rw[I]at q;injection q with q;omega
 have ad:Y≠mb:=by
  have:=(J.lt Y I).1;omega
 refine⟨hm,λc=>?_,?_⟩
 ·rw[Wn,e c];by_cases G:c=A
  ·subst G;rw[if_pos rfl,if_pos rfl];refine .inr ⟨hc,V,Y,rfl,I,by simp,?_⟩;rw[List.length_append,List.map_append];refine Rl (w:=w1) ?_ hf ?_
   ·exact J
   ·exact λg q=>by rw[I]at q;injection q with q;omega
  ·rw[if_neg (Ne.symm G),if_neg G];rcases h.row c with h1|⟨h0,v,g,h1,h2,h3,h4⟩
   ·exact .inl h1
   ·obtain⟨a1,a2,a3⟩:=L c v g G h1 h2;refine .inr ⟨h0,v,g,h1,h2,h3,Rl (h4.kept hg (.inr (by rw[h2];exact a1))) hf (λaf q=>by rw[h2]at q;injection q with q;omega)⟩
 ·intro c c' v u g hl z U X;rw[Wn]at hl z;by_cases h1:A=c<;>by_cases h2:A=c'
  ·exact h1.symm.trans h2
  ·rw[if_pos h1]at hl;rw[if_neg h2]at z;injection hl with hl
   subst hl;have:=(L c' u g (Ne.symm h2) z X).2.1;rw[I]at U;injection U with U
   exact absurd U.symm this
  ·rw[if_neg h1]at hl;rw[if_pos h2]at z;injection z with z
   subst z;have:=(L c v g (Ne.symm h1) hl U).2.1;rw[I]at X;injection X with X
   exact absurd X.symm this
  ·rw[if_neg h1]at hl;rw[if_neg h2]at z;exact h.apart c c' v u g hl z U X
end
section
open Go.RowKit TR
def Pe(cs:List UInt8)(ks:List Key)(j:Nat):Nat:=((cs.take j).map λc=>Sg (strip c ks)).sum
theorem Lb{cs:List UInt8}{ks:List Key}{j:Nat}(h:j<cs.length):Pe cs ks (j+1)=Pe cs ks j+Sg (strip cs[j] ks):=by
 unfold Pe;rw[List.take_succ_eq_append_getElem h,List.map_append,List.sum_append];simp
theorem Zed{cs:List UInt8}{ks:List Key}(h:cs.Nodup)(j:Nat):Pe cs ks j+ks.length<=Sg ks:=by
 have h1:=Gh (cs.take j) ks (h.sublist (List.take_sublist j cs));exact h1
def Ups(C:F)(U:Nat->Prop):Prop:=∀ x,U x->x≠0->∃ y:Nat,U y/\C x=(y:Int)
def Ei(wm:World)(dp g0 n0 p:Nat)(B0 C0:F)(U0:Nat->Prop)(b:Nat)(cs:List UInt8)(ks:List Key)(K M j:Nat)(wr:World):Prop :=
 ∃ g n B C U,DA wr dp g n B C/\Laid n0 B0 C0 U0 (λx=>U0 x\/∃ c∈cs,x=b+c.toNat) p b cs ks j n B C U/\Ups C U/\(∀ x,U x->x≠0->∀ c∈cs.drop j,C x≠((b+c.toNat:Nat):Int)) /\
  Few U (K+cs.length+Pe cs ks j)/\(∀ x,U x->x<M+256+256*Pe cs ks j)/\n<=134217728/\Fr (two dp g0) wm wr/\(g=g0\/wm.heap.size<=g)
def Be(w:World)(dp g0 n0 p:Nat)(B0 C0:F)(U0:Nat->Prop)(ks:List Key)(K M:Nat)(w':World):Prop :=
 ∃ g n B C U,DA w' dp g n B C/\FreeOk n B C U/\Gg p n0 B0 C0 U0 n B C U/\Sub n B C (λx=>x=p\/(U x/\¬ U0 x)) p ks/\Ups C U/\Few U (K+Sg ks)/\(∀ x,U x->x<M+256*Sg ks)/\n<=134217728 /\
  Fr (two dp g0) w w'/\(g=g0\/w.heap.size<=g)
variable{wm wr w':World}{dp g0 n0 p b K M j:Nat}{B0 C0:F}{U0:Nat->Prop}{cs:List UInt8}{ks:List Key}
theorem Zhs{w5:World}(h:Bb wm dp g0 n0 p B0 C0 U0 (max M 256) cs b cs.length w5)(U:Ups C0 U0)(hM:256<=M)(ag:M<=33554432)(ae:n0<=134217728)(hU:∀ x,U0 x->x<M)(hp:U0 p)
  (aa:∀ x,U0 x->x≠0->C0 x≠(p:Int)) (hF:Few U0 K):Ei wm dp g0 n0 p B0 C0 U0 b cs ks K M 0 w5:=by
 obtain⟨h1,h2,h3,g,n,B,C,D,G,hb,I,W,⟨Z,ad⟩,ac,ab,hg⟩:=h;rw[List.take_length]at G I;have af:b<=M:=Om
 have hv:Pe cs ks 0=0:=rfl;refine⟨g,n,B,C,_,D,⟨G,⟨Z,λx z=>.inl z,λx z Y=>(W x z).1 Y,λx z h0=>(W x z).2 h0,?_⟩,hb,λx z=>z,λc q=>⟨.inr ⟨c,q,rfl⟩,h3 c q,I c q⟩,?_,λc I=>by simp at I,λc I=>by simp at I⟩,?_,?_,?_,?_,Om,ab,hg⟩
 ·rintro x (z|⟨c,q,rfl⟩) hu
  ·exact absurd z hu
  ·exact⟨p,I c q,.inl rfl⟩
 ·rintro x (z|⟨c,q,rfl⟩) J
  ·exfalso;by_cases A:x=0
   ·subst A;obtain⟨y,X,hf⟩:=G.head;have:y≠0:=λe=>hf.2.1 (e▸G.root)
    omega
   ·rw[(W x z).2 A]at J;exact aa x z A J
  ·exact⟨c,q,rfl⟩
 ·rintro x (z|⟨c,q,rfl⟩) A
  ·obtain⟨y,X,e⟩:=U x z A;exact⟨y,.inl X,((W x z).2 A).trans e⟩
  ·exact⟨p,.inl hp,I c q⟩
 ·rintro x (z|⟨c',q,rfl⟩) A c V e
  ·obtain⟨y,X,e'⟩:=U x z A;rw[(W x z).2 A,e']at e;have:y=b+c.toNat:=Om;exact h3 c (by simpa using V) (this▸X)
  ·rw[I c' q]at e;have:p=b+c.toNat:=Om;exact h3 c (by simpa using V) (this▸hp)
 ·rw[hv];obtain⟨L,hL,hm⟩:=hF;refine⟨L++cs.map (λc=>b+c.toNat),by simp;omega,λx z=>?_⟩;rcases z with h|⟨c,I,rfl⟩
  ·exact List.mem_append_left _ (hm x h)
  ·exact List.mem_append_right _ (List.mem_map.2 ⟨c,I,rfl⟩)
 ·rw[hv];rintro x (z|⟨c,q,rfl⟩)
  ·have:=hU x z;omega
  ·have:=c.toNat_lt;omega
theorem Zks{g n:Nat}{B C:F}{U:Nat->Prop}{v:Int}(G:j<cs.length)(V:cs[j]=0)(hp:U0 p)(q:cs.Pairwise (· < ·))(X:∀ i,Vz ks=some i->v = -(i:Int))
  (h:DA wr dp g n B C/\Laid n0 B0 C0 U0 (λx=>U0 x\/∃ c∈cs,x=b+c.toNat) p b cs ks j n B C U/\Ups C U/\(∀ x,U x->x≠0->∀ c∈cs.drop j,C x≠((b+c.toNat:Nat):Int)) /\
   Few U (K+cs.length+Pe cs ks j)/\(∀ x,U x->x<M+256+256*Pe cs ks j)/\n<=134217728/\Fr (two dp g0) wm wr/\(g=g0\/wm.heap.size<=g))
  (k:Nat):Ei wm dp g0 n0 p B0 C0 U0 b cs ks K M (j+1) ((wr.drewN k).setCell ⟨g,b*2,none⟩ (.int .i32 v)):=by
 obtain⟨D,L,Y,hd,hF,hM,Z,J,I⟩:=h;have W:=Lb (ks:=ks) G;refine⟨g,n,_,C,U,(D.drewN k).setB b v,L.leaf_step G V hp q X,Y,λx z h0 c hc=>hd x z h0 c (by rw[List.drop_eq_getElem_cons G];exact List.mem_cons_of_mem _ hc),hF.mono Om,λx z=>by have:=hM x z;omega,Z,?_,I⟩;refine (J.drewN k).setCell _ _ (λA=>?_);rcases I with rfl|I
 ·exact .inr rfl
 ·simp only at A;omega
theorem Zkr{g n:Nat}{B C:F}{U:Nat->Prop}(I:j<cs.length)(hz:cs[j]≠0)(hb:1<=b)(hp:U0 p)(r0:U0 0)(J:cs.Nodup)
  (h:DA wr dp g n B C/\Laid n0 B0 C0 U0 (λx=>U0 x\/∃ c∈cs,x=b+c.toNat) p b cs ks j n B C U/\Ups C U/\(∀ x,U x->x≠0->∀ c∈cs.drop j,C x≠((b+c.toNat:Nat):Int)) /\
   Few U (K+cs.length+Pe cs ks j)/\(∀ x,U x->x<M+256+256*Pe cs ks j)/\n<=134217728/\Fr (two dp g0) wm wr/\(g=g0\/wm.heap.size<=g))
  (z:Be wr dp g n (b+(cs[j]).toNat) B C U (strip cs[j] ks) (K+cs.length+Pe cs ks j) (M+256+256*Pe cs ks j) w'):Ei wm dp g0 n0 p B0 C0 U0 b cs ks K M (j+1) w':=by
 obtain⟨D,L,hu,hd,hF,hM,hn,X,hg⟩:=h;obtain⟨g',n',B',C',U',D',G',S',af,Y,ae,ad,aa,W,G⟩:=z;have ag:=Lb (ks:=ks) I;have hq:U (b+(cs[j]).toNat):=L.sub _ (.inr ⟨_,List.getElem_mem I,rfl⟩);refine⟨g',n',B',C',U',D',L.node_step I hz hb hp r0 (λx z=>.inl z) J S' G' af,Y,λx z h0 c hc e=>?_,ae.mono Om,λx z=>by have:=ad x z;omega,aa,X.trans W (Zdp hg),?_⟩
 ·have V:c∈cs.drop j:=by rw[List.drop_eq_getElem_cons I];exact List.mem_cons_of_mem _ hc
  have ab:c∈cs:=List.mem_of_mem_drop hc;have ac:U (b+c.toNat):=L.sub _ (.inr ⟨c,ab,rfl⟩)
  have Z:b+c.toNat≠b+(cs[j]).toNat:=by
   intro e;have:c=cs[j]:=UInt8.toNat_inj.1 Om;rw[List.drop_eq_getElem_cons I]at V;have hn:=J.sublist (List.drop_sublist j cs);rw[List.drop_eq_getElem_cons I]at hn;exact (List.nodup_cons.1 hn).1 (this▸hc)
  by_cases A:U x
  ·rw[S'.check x A h0]at e;exact hd x A h0 c V e
  ·obtain⟨y,hy,q⟩:=S'.fresh x z A;have:y=b+c.toNat:=Om;subst this;rcases q with q|q
   ·exact Z q
   ·exact q.2 ac
 ·rcases G with rfl|G
  ·exact hg
  ·exact .inr (Nt X.size G)
theorem Zku{w:World}(h:Ei wm dp g0 n0 p B0 C0 U0 b cs ks K M cs.length wr)(Y:1<=b)(hp:U0 p)(hl:∀ c,c∈cs↔∃ k∈ks,hd k=c)(z:cs.Nodup)(J:cs.length<=ks.length)(A:ks≠[])(I:Zf w wm):Be w dp g0 n0 p B0 C0 U0 ks K M wr:=by
 obtain⟨g,n,B,C,U,D,L,V,hd,hF,Z,W,G,X⟩:=h;have hv:=Zed (ks:=ks) z cs.length;have hk:0<ks.length:=List.length_pos_iff.2 A;refine⟨g,n,B,C,U,D,L.good,L.stay,L.done Y (λx q=>.inl q) hp hl,V,hF.mono Om,λx q=>by have:=Z x q;omega,W,?_,X.imp id (λh=>Nt I.size h)⟩;exact (I.mono (λ_ _ e=>e.elim)).trans G (λj _ e=>e)
end
section
open Go.RowKit TR
theorem _root_.TR.FreeOk.start{n:Nat}{B C:F}(L:256<=n)(V:C 0 = -1)(I:B 1 = -((n:Int)-1))(G:C (n-1) = -1)(hB:∀ x,2<=x->x<n->B x = -((x:Int)-1))(U:∀ x,1<=x->x+1<n->C x = -((x:Int)+1)) :
  FreeOk n B C (λx=>x=0):=by
 have hF:T4 n (λx=>x=0) 1:=⟨Om,Om,λz W=>Om⟩;have J:Sf n (λx=>x=0) (n-1):=⟨Om,Om,λz h1 h2=>Om⟩;refine⟨L,rfl,λx q=>Om,λx q h=>absurd q h,λx q A=>?_,λx q A=>?_,1,by rw[V];rfl,hF⟩
 ·by_cases e:x+1<n
  ·exact⟨x+1,by rw[U x Om e];simp,.inl ⟨Om,e,A,Om,λz h1 h2=>Om⟩⟩
  ·obtain rfl:x=n-1:=Om
   exact⟨1,by rw[G];rfl,.inr ⟨J,hF⟩⟩
 ·by_cases e:x=1
  ·subst e;exact⟨n-1,by rw[I];omega,.inr ⟨J,hF⟩⟩
  ·exact⟨x-1,by rw[hB x Om q];omega,.inl ⟨Om,q,Om,A,λz h1 h2=>Om⟩⟩
theorem Zl4(w:World)(dp m:Nat)(v:Value)(h:w.heap[dp]?=some (.cells #[v] 217 (0,0))) :
  DA ((w.setCell ⟨dp,0,none⟩ (.slice (some ⟨w.heap.size,0,none⟩) m m)).alloc (.cells (madeCells #[.int .i32 0,.int .i32 0] (m*2)) 396)) dp w.heap.size m (λ_=>0) (λ_=>0):=by
 have z:dp<w.heap.size:=(Gs1.1 h).1;have h1:=one_setCell h (u:=.slice (some ⟨w.heap.size,0,none⟩) m m);have q:(w.setCell ⟨dp,0,none⟩ (.slice (some ⟨w.heap.size,0,none⟩) m m)).heap.size=w.heap.size:=by simp[World.setCell]
 generalize w.setCell _ _=J at h1 q⊢;refine⟨by rw[alloc_old _ _ Om];exact h1,madeCells #[.int .i32 0,.int .i32 0] (m*2),alloc_at' _ _ q.symm,by simp[size_madeCells],λi hi=>?_⟩;have A:i*2<m*2:=Om
 have h1:i*2+1<m*2:=Om
 have I:i*2 % 2=0:=Om
 have G:(i*2+1) % 2=1:=Om
 simp[madeCells,A,h1,I,G]
def Zk1(w:World)(dp N i:Nat)(wr:World):Prop :=
 ∃ B C,DA wr dp w.heap.size N B C/\B 0=1/\C 0 = -1/\(∀ x,1<=x->x<i->B x = -((x:Int)-1)/\C x = -((x:Int)+1))/\Fr (λk=>k=dp) w wr
theorem Zbj(w:World)(dp:Nat)(v:Value)(h:w.heap[dp]?=some (.cells #[v] 217 (0,0))) :
  Calls Tryz.prog 259 #[.pointer (some ⟨dp,0,none⟩)] w λe w'=>e=.returned (.tuple #[])/\∃ B C,DA w' dp w.heap.size 51200 B C/\FreeOk 51200 B C (λx=>x=0)/\B 0=1/\Fr (λk=>k=dp) w w':=by
 have aa:∀ W:World,(Instr.makeSlice 217 (.int .i64 51200) (.int .i64 51200)).run Tryz.prog W =
   .ok (.slice (some ⟨W.heap.size,0,none⟩) 51200 51200) (W.alloc (.cells (madeCells #[.int .i32 0,.int .i32 0] (51200*2)) 396)):=λW=>Ce 51200 Om W
 have ad:dp<w.heap.size:=(Gs1.1 h).1;have Z:w.cell? ⟨dp,0,none⟩=some v:=by simp[World.cell?,h]
 have f0:w.frozen? ⟨dp,0,none⟩=false:=by simp[World.frozen?,h]
 have p1:∀ o,(w.alloc o).cell? ⟨dp,0,none⟩=some v:=λo=>((Fe w).alloc o).cell Z id
 have L:∀ o,(w.alloc o).frozen? ⟨dp,0,none⟩=false:=λo=>(((Fe w).alloc o).frozen Z id).trans f0
 go_enter Tryz.func259,Tryz.ntmps259
 go_upto_region 1 with fail
 have D:DA ((w.setCell ⟨dp,0,none⟩ (.slice (some ⟨w.heap.size,0,none⟩) 51200 51200)).alloc (.cells (madeCells #[.int .i32 0,.int .i32 0] 102400) 396)) dp w.heap.size 51200 (λ_=>0) (λ_=>0) :=
  Zl4 w dp 51200 v h
 have F:Fr (λk=>k=dp) w ((w.setCell ⟨dp,0,none⟩ (.slice (some ⟨w.heap.size,0,none⟩) 51200 51200)).alloc (.cells (madeCells #[.int .i32 0,.int .i32 0] 102400) 396)):=((Fr.refl (λk=>k=dp) w).setCell ⟨dp,0,none⟩ _ (λ_=>rfl)).alloc _;generalize World.alloc _ _=V at D F⊢;clear p1 L Z f0 aa;have q0:=D.pc;have Y:=D.b 0 Om;have G:=D.c 0 Om;have L:=D.gf;have q3:=D.pcs 0;have q4:=D.bsc 0 Om;simp only[Nat.zero_mul,Nat.zero_add]at Y G q4
 have U:Hid (Zk1 w dp 51200 1 ((V.setCell ⟨w.heap.size,0,none⟩ (.int .i32 1)).setCell ⟨w.heap.size,1,none⟩ (.int .i32 (-1)))):=by
  have A:=(D.setB 0 1).setC 0 (-1);simp only[Nat.zero_mul,Nat.zero_add]at A;exact⟨_,_,A,Y7 _ _ _,Y7 _ _ _,λx h1 h2=>Om,(F.setCell _ _ (λh=>absurd h (Nat.lt_irrefl _))).setCell _ _ (λh=>absurd h (Nat.lt_irrefl _))⟩
 have X:((V.setCell ⟨w.heap.size,0,none⟩ (.int .i32 1)).setCell ⟨w.heap.size,1,none⟩ (.int .i32 (-1))).cell? ⟨dp,0,none⟩=_:=(by obtain⟨B,C,A,_⟩:=U.out;exact A.pc);have HD:=Hd (Ai1 D F);clear D F;go_wp2_with fail
 generalize (V.setCell ⟨w.heap.size,0,none⟩ (.int .i32 1)).setCell ⟨w.heap.size,1,none⟩ (.int .i32 (-1))=w2 at U X⊢;clear q0 Y G q3 q4 L;obtain⟨N,hN⟩:∃ N:Nat,N=51200:=⟨_,rfl⟩;have J:(51200:Int)=(N:Int):=Om
 rw[J];rw[<- hN]at U X⊢;have af:N<=51200:=Om
 have ae:256<=N:=Om
 have HN:=Hd hN;clear J hN
 go_loopw [3] (λv wr=>∃ i:Nat,1<=i/\i<=N/\v=.int .i64 i/\Hid (Zk1 w dp N i wr)) (λv _=>N-(intOf v).toNat)
 case atStart=>exact⟨1,Om,Om,rfl,U⟩
 case round =>
  clear U X;obtain⟨i,ac,ab,rfl,HR⟩:=hrel;obtain⟨Bi,Ci,D,z,q,S,F⟩:=HR.out;have Y:=D.pc;by_cases I:i<N
  ·have G:=D.pcs (i*2);have b1:=D.b i I;have c1:=D.bsc i I;have L:=D.gf (i*2);have f2:=D.gf (i*2+1);have HS:=Hd (Ai1 D (Ai1 z (Ai1 q (Ai1 S F))));clear D z q S F HR
   go_wp2
   go_roundw
   case rel =>
    obtain⟨D,z,q,S,F⟩:=HS.out;refine⟨i+1,Om,Om,by go_num,(show Hid _ from⟨_,_,(D.setB i _).setC i _,by rw[Yh _ _ Om];exact z,by rw[Yh _ _ Om];exact q,λx h1 h2=>?_,(F.setCell _ _ (λh=>absurd h (Nat.lt_irrefl _))).setCell _ _ (λh=>absurd h (Nat.lt_irrefl _))⟩)⟩;by_cases e:x=i
    ·subst e;rw[Y7,Y7];exact⟨rfl,rfl⟩
    ·rw[Yh _ _ e,Yh _ _ e];exact S x h1 Om
   case measure=>simp[intOf];omega
  ·obtain rfl:i=N:=Om
   have b1:=D.b 1 Om;have c1:=D.c (i-1) Om;have G:=D.pcs (1*2);have L:=D.gf;have c2:(wr.setCell ⟨w.heap.size,2,none⟩ (.int .i32 (-((i:Int)-1)))).cell? ⟨w.heap.size,(i-1)*2+1,none⟩=some (.int .i32 (Ci (i-1))):=(D.setB 1 (-((i:Int)-1))).c (i-1) Om;have HS:=Hd (Ai1 D (Ai1 z (Ai1 q (Ai1 S F))));clear D z q S F HR;simp only[Nat.one_mul]at b1 G
   go_wp2
   go_end0
   obtain⟨D,z,q,S,F⟩:=HS.out;have A:=(D.setB 1 (-((i:Int)-1))).setC (i-1) (-1);rw[<- HN.out];refine⟨rfl,_,_,A,?_,by rw[Yh _ _ Om];exact z,(F.setCell _ _ (λh=>absurd h (Nat.lt_irrefl _))).setCell _ _ (λh=>absurd h (Nat.lt_irrefl _))⟩;refine FreeOk.start Om ?_ ?_ ?_ ?_ ?_
   ·rw[Yh _ _ Om];exact q
   ·rw[Y7]
   ·exact Y7 _ _ _
   ·intro x h1 h2;rw[Yh _ _ Om];exact (S x Om h2).1
   ·intro x h1 h2;rw[Yh _ _ Om];exact (S x h1 Om).2
end
section
open Go.RowKit TR
theorem Gd{w:World}{dp g n m:Nat}{B C:F}(h:DA w dp g n B C)(A:m<=n):∀ j v,(Xn m B C)[j]?=some v->w.cell? ((⟨g,0,none⟩:Addr).add j)=some v:=by
 intro j v q
 have G:j<m*2:=by
  rw[<- Zv m B C];exact (Gl.1 q).1
 have z:(⟨g,0,none⟩:Addr).add j=⟨g,j,none⟩:=by unfold Addr.add;split<;>simp_all
 rw[z];rcases Nat.mod_two_eq_zero_or_one j with e|e
 ·obtain⟨i,rfl⟩:∃ i,j=i*2:=⟨j / 2,Om⟩;rw[(Ux m B C i Om).1]at q;rw[h.b i Om];exact q
 ·obtain⟨i,rfl⟩:∃ i,j=i*2+1:=⟨j / 2,Om⟩;rw[(Ux m B C i Om).2]at q;rw[h.c i Om];exact q
theorem Ey(w:World)(dp g n:Nat)(B C:F)(h:DA w dp g n B C)(hn:n<=268435456)(ad:1<=n) :
  Calls Tryz.prog 261 #[.pointer (some ⟨dp,0,none⟩)] w λe w'=>e=.returned (.tuple #[])/\∃ g' m,m<=n/\DA w' dp g' m B C/\(∀ x,m<=x->x<n->C x<0)/\Fr (λk=>k=dp) w w'/\(g'=g\/w.heap.size<=g'):=by
 have p0:=h.pc;have f0:=h.pf 0;have U:=Hd h;clear h;go_enter Tryz.func261,Tryz.ntmps261
 go_upto_block 0 with fail
 go_cut [2] from 11 to 28 (λs wx=>∃ m:Nat,m<=n/\s=.int .i64 m/\wx=w/\Hid (∀ x,m<=x->x<n->C x<0))
 case first =>
  go_wp2_with fail
  go_loopw [2,3] (λs v wr=>∃ i:Nat,i<=n/\v=.int .i64 i/\s=.int .i64 ((n-i:Nat):Int)/\wr=w/\Hid (∀ x,n-i<=x->x<n->C x<0)) (λ_ v _=>n-(intOf v).toNat)
  case atStart=>exact⟨0,Nat.zero_le _,rfl,rfl,rfl,λx h1 h2=>Om⟩
  case round =>
   obtain⟨i,hi,rfl,rfl,rfl,A⟩:=hrel;by_cases ag:i<n
   ·obtain⟨x,hx⟩:∃ x,n=x+1+i:=⟨n-i-1,Om⟩;have e1:(n:Int)-(i:Int)-1=(x:Int):=Om;have e2:((n-i:Nat):Int)-1=((n-(i+1):Nat):Int):=Om;have c1:=U.out.c x Om;have ae:x<n:=Om;have V:=Hd hx;clear hx;by_cases I:C x<0
    ·go_wp2
     go_roundw
     case rel =>
      refine⟨i+1,Om,by go_num,by first|rfl|go_num,by first|rfl|trivial,λy h1 h2=>?_⟩;have hx:=V.out;by_cases e:y=x
      ·subst e;exact I
      ·exact A.out y Om h2
     case measure=>simp[intOf];omega
    ·go_wp2
     go_meet
     case rel=>exact⟨n-i,Om,rfl,rfl,A⟩
   ·obtain rfl:i=n:=Om
    go_wp2_with fail
    go_meet
    case rel=>exact⟨0,Om,by go_num,rfl,λy h1 h2=>A.out y Om h2⟩
 case rest =>
  obtain⟨m,hm,rfl,rfl,A⟩:=hcut;by_cases aa:m=n
  ·subst aa;go_wp2_with fail
   exact bodyPost_ret (results_none rfl _ _ _) rfl ⟨rfl,g,m,Nl _,U.out,A.out,Fl _,.inl rfl⟩
  ·have af:((m:Int)==(n:Int))=false:=beq_eq_false_iff_ne.2 Om;have ab:=Ce m Om;go_upto_region 9 with fail
   generalize L:World.alloc _ _=W;have hE:Zf wc W:=by rw[<- L];exact ((Fl _).alloc _).alloc _
   have D1:DA W dp g n B C:=U.out.keep hE id id
   have D2:DA W wc.heap.size (wc.heap.size+1) m (λ_=>0) (λ_=>0):=by
    refine⟨by rw[<- L,alloc_old _ _ (by rw[Za];omega),alloc_at],madeCells #[.int .i32 0,.int .i32 0] (m*2),by rw[<- L];exact alloc_at' _ _ (by rw[Za]),by simp[size_madeCells],λi hi=>?_⟩;have h0:i*2<m*2:=Om;have h1:i*2+1<m*2:=Om;have e0:i*2 % 2=0:=Om;have e1:(i*2+1) % 2=1:=Om;simp[madeCells,h0,h1,e0,e1]
   have V:=Hd hE;clear L hE;have q1:=D2.pc;have q0:=D1.pc;refine Ul 8 Kr Kr ?_;simp only[List.take_succ_cons,List.take_zero,List.drop_succ_cons,List.drop_zero]
   repeat still_step
   refine wpStill_nil ?_;obtain⟨J,z,G,q⟩:=D2.arr
   have ac:∀ ty,(Builtin.copy_ #[217,217] ty #[.slice (some ⟨wc.heap.size+1,0,none⟩) m m,.slice (some ⟨g,0,none⟩) m n]).run Tryz.prog W.drew=_:=λty =>
    Ol W.drew _ _ ty _ _ _ _ 2 ⟨g,0,none⟩ m n J _ (Xn m B C) Tryz.underlying217 Zig z (Nl _) (Zv _ _ _) (Gd D1.drew hm) (by rw[Zv];omega) (Kw _ _ _)
   have D3:=copied (B:=B) (C:=C) ((Om:m<=m)) D2.drew.ptr z G q;have X:Zf wc (W.drew.setRow (wc.heap.size+1) (Xn m B C++J.toList.drop (Xn m B C).length).toArray):=V.out.drew.setRow _ _ (λh=>Om);have Z:DA _ wc.heap.size (wc.heap.size+1) m B C:=D3.congr (λi hi=>(if_pos hi).symm) (λi hi=>(if_pos hi).symm);go_upto_region 10 with fail
   generalize World.setRow _ _ _=W1 at D3 Z X⊢;have r0:=Z.pc;have Y:DA W1 dp g n B C:=U.out.keep X id id;have r1:=Y.pc;have r2:=Y.pf;have HD:=Hd (Ai1 Z (Ai1 X Y.ptr));clear D1 D2 V q1 q0 z G q ac D3 Z Y X p0 f0 ab;go_wp2_with fail
   go_end0
   exact⟨rfl,_,m,hm,HD.out.1.repoint HD.out.2.2,A.out,(HD.out.2.1.mono (λ_ _ e=>e.elim)).setCell _ _ (λ_=>rfl),.inr (Nat.le_succ _)⟩
end
end Go.Proofs.YtlfoalomaofejaaGreatDoor
