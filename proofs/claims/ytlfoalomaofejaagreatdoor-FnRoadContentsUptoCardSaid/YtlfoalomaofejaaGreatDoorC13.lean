/- add: a node's keys in groups b -/
import Derived.Test.YtlfoalomaofejaaGreatDoorC12
import Derived.Laws.IdiomStrings
import Derived.Deep.CutBlock
set_option linter.all false
set_option maxRecDepth 100000
set_option maxHeartbeats 1000000
namespace Go.Proofs.YtlfoalomaofejaaGreatDoor
section
open Go.RowKit TR
abbrev Lc:UInt8->Value:=λc=>Value.int .u8 (c.toNat:Int)
def Vx(kws:List ByteArray)(i j:Nat):List UInt8:=((kws[j]?).getD ByteArray.empty).data.toList.drop i
def Yr(kws:List ByteArray)(i j:Nat):UInt8:=(Vx kws i j).headD 0
def Rw(kws:List ByteArray)(ids:List Nat)(i j:Nat):Key:=(Vx kws i j,(ids[j]?).getD 0)
abbrev Zv(kws:List ByteArray)(ids:List Nat)(i:Nat)(bs:List Nat):List Key:=bs.map (Rw kws ids i)
abbrev Nb(kws:List ByteArray)(i:Nat)(bs:List Nat)(c:UInt8):List Nat:=bs.filter λj=>Yr kws i j==c
theorem Zim(kws:List ByteArray)(ids:List Nat)(i j:Nat):hd (Rw kws ids i j)=Yr kws i j:=rfl
theorem B3{kws:List ByteArray}{i j:Nat}{a:UInt8}{t:List UInt8}(h:Vx kws i j=a::t):Vx kws (i+1) j=t:=by
 unfold Vx at h⊢;rw[<- List.drop_drop,h];rfl
theorem Qb(kws:List ByteArray)(ids:List Nat)(i:Nat)(bs:List Nat){c:UInt8}(hc:c≠0):strip c (Zv kws ids i bs)=Zv kws ids (i+1) (Nb kws i bs c):=by
 induction bs with
 | nil=>rfl
 | cons j bs ih =>
  rw[show Zv kws ids i (j::bs)=Rw kws ids i j::Zv kws ids i bs from rfl,Uc,ih];simp only[Nb,List.filter_cons];have e:(Rw kws ids i j).1=Vx kws i j:=rfl;rw[e]
  cases hr:Vx kws i j with
  | nil =>
   have:Yr kws i j=0:=(by simp[Yr,hr]);rw[this,if_neg (by simpa using Ne.symm hc)];rfl
  | cons a t =>
   have:Yr kws i j=a:=(by simp[Yr,hr]);rw[this];by_cases h:a=c
   ·subst h;simp[Rw,B3 hr]
   ·simp[h]
theorem mem_hd{kws:List ByteArray}{ids:List Nat}{i:Nat}{bs:List Nat}{c:UInt8}:(∃ k∈Zv kws ids i bs,hd k=c)↔c∈bs.map (Yr kws i):=by
 constructor
 ·rintro⟨k,hk,rfl⟩;obtain⟨j,hj,rfl⟩:=List.mem_map.1 hk;exact List.mem_map.2 ⟨j,hj,rfl⟩
 ·intro h;obtain⟨j,hj,rfl⟩:=List.mem_map.1 h;exact⟨_,List.mem_map.2 ⟨j,hj,rfl⟩,rfl⟩
theorem Srt.first_end{k0:Key}{ks:List Key}(h:Srt (k0::ks)){i:Nat}(he:Vt (k0::ks)=some i):i=k0.2:=by
 obtain⟨k,hk,hke⟩:=Qm.1 ⟨i,he⟩
 have h0:k0.1=[]:=by
  rcases List.mem_cons.1 hk with rfl|hk
  ·exact hke
  ·have:=(List.pairwise_cons.1 h).1 k hk;rw[hke]at this
   cases hs:k0.1 with
   | nil=>rfl
   | cons a t=>rw[hs]at this;simp[lex]at this
 simp[Vt,h0]at he;exact he.symm
structure Rows(kws:List ByteArray)(i base mb:Nat)(bs:List Nat)(l:List (UInt8×Value))(w:World):Prop where
 map:Zz Lc mb l w
 row:∀ c,(look l c=none/\(c=0\/Nb kws i bs c=[])) \/
  (c≠0/\∃ v g,look l c=some v/\v.ownBlock=some g/\Nb kws i bs c≠[]/\w.ownsRow base 3 1 v (Nb kws i bs c).length ((Nb kws i bs c).map λj=>.int .i64 ((j:Nat):Int)))
 apart:∀ c c' v v' g,look l c=some v->look l c'=some v'->v.ownBlock=some g->v'.ownBlock=some g->c=c'
variable{kws:List ByteArray}{i base mb:Nat}{bs:List Nat}{l:List (UInt8×Value)}{w w':World}
theorem Rows.at(h:Rows kws i base mb bs l w){c:UInt8}{v:Value}(hl:look l c=some v) :
  c≠0/\∃ g,v.ownBlock=some g/\Nb kws i bs c≠[]/\w.ownsRow base 3 1 v (Nb kws i bs c).length ((Nb kws i bs c).map λj=>.int .i64 ((j:Nat):Int)):=by
 rcases h.row c with ⟨h1,_⟩|⟨h0,v',g,h1,h2,h3,h4⟩
 ·rw[hl]at h1;cases h1
 ·rw[hl]at h1;cases h1;exact⟨h0,g,h2,h3,h4⟩
theorem Rows.none0(h:Rows kws i base mb bs l w):look l 0=none:=by
 rcases h.row 0 with ⟨h1,_⟩|⟨h0,_⟩
 ·exact h1
 ·exact absurd rfl h0
theorem Qd{S:Nat->Prop}{e:TypeId}{sz n:Nat}{v:Value}{xs:List Value}(h:w.ownsRow base e sz v n xs)(f:Fr S w w')(hs:∀ g,v.ownBlock=some g->¬ S g):w'.ownsRow base e sz v n xs:=by
 obtain⟨h1,h2|⟨g,cap,cur,rfl,a1,a2,a3⟩⟩:=h
 ·exact⟨h1,.inl h2⟩
 ·exact⟨h1,.inr ⟨g,cap,cur,rfl,a1,f.heap a2 (hs g rfl),a3⟩⟩
theorem Rows.keep(h:Rows kws i base mb bs l w){S:Nat->Prop}(f:Fr S w w')(hm:¬ S mb)(hs:∀ c v g,look l c=some v->v.ownBlock=some g->¬ S g):Rows kws i base mb bs l w':=by
 refine⟨h.map.keep f hm,λc=>?_,h.apart⟩;rcases h.row c with h1|⟨h0,v,g,h1,h2,h3,h4⟩
 ·exact .inl h1
 ·exact .inr ⟨h0,v,g,h1,h2,h3,Qd h4 f (λg' hg'=>hs c v g' h1 hg')⟩
theorem Rows.alloc(h:Rows kws i base mb bs l w)(o:Obj):Rows kws i base mb bs l (w.alloc o):=h.keep ((Fe w).alloc o) id (λ_ _ _ _ _=>id)
theorem Rows.block(h:Rows kws i base mb bs l w){c:UInt8}{v:Value}{g:Nat}(hl:look l c=some v)(hg:v.ownBlock=some g):base<=g/\g<w.heap.size:=by
 obtain⟨_,g',h2,_,h4⟩:=h.at hl;exact h4.lt g hg
theorem Rows.skip(h:Rows kws i base mb bs l w){j:Nat}(hj:Yr kws i j=0):Rows kws i base mb (bs++[j]) l w:=by
 have e:∀ c,c≠0->Nb kws i (bs++[j]) c=Nb kws i bs c:=λc hc=>by simp[Nb,List.filter_append,hj,Ne.symm hc]
 refine⟨h.map,λc=>?_,h.apart⟩;by_cases hc:c=0
 ·subst hc;exact .inl ⟨h.none0,.inl rfl⟩
 ·rw[e c hc];exact h.row c
theorem Rows.or_nil(h:Rows kws i base mb bs l w){c:UInt8}(hc:c≠0) :
  w.ownsRow base 3 1 ((look l c).getD (.slice none 0 0)) (Nb kws i bs c).length ((Nb kws i bs c).map λj=>.int .i64 ((j:Nat):Int)):=by
 rcases h.row c with ⟨h1,h2⟩|⟨h0,v,g,h1,h2,h3,h4⟩
 ·rw[h1,h2.resolve_left hc];exact World.ownsRow_nil _ _ _ _
 ·rw[h1];exact h4
theorem Rows.map_grown{w1:World}{o:Obj}{c:UInt8}(h:Rows kws i base mb bs l w)(hg:(w.alloc o).grownBy w1 ((look l c).getD (.slice none 0 0)).ownBlock)(hmb:mb<base):Zz Lc mb l w1:=by
 have f:Fr (λj=>some j=((look l c).getD (.slice none 0 0)).ownBlock) (w.alloc o) w1:=⟨hg.os,hg.tape,hg.output,hg.size,λj hj hn=>hg.block j hj hn⟩;refine (h.map.alloc o).keep f (λe=>?_)
 cases hl:look l c with
 | none=>rw[hl]at e;simp[Value.ownBlock]at e
 | some v =>
  rw[hl]at e;have:=(h.block hl e.symm).1;omega
theorem Rows.step{w1 w2:World}{v':Value}{j:Nat}{cj:UInt8}(h:Rows kws i base mb bs l w)(hmb:mb<base)(hbs:base<=w.heap.size)(hcj:Yr kws i j=cj)(hc:cj≠0)
  (hown:w1.ownsRow base 3 1 v' ((Nb kws i bs cj).length+1) ((Nb kws i bs cj).map (λj=>.int .i64 ((j:Nat):Int))++[.int .i64 ((j:Nat):Int)]))
  (hg:w.grownBy w1 ((look l cj).getD (.slice none 0 0)).ownBlock) (hat:v'.ownBlock=((look l cj).getD (.slice none 0 0)).ownBlock\/v'.ownBlock=some w.heap.size)
  (hm:Zz Lc mb (put l cj v') w2) (hf:Fr (λk=>k=mb) w1 w2):Rows kws i base mb (bs++[j]) (put l cj v') w2:=by
 have e:∀ c,Nb kws i (bs++[j]) c=if c=cj then Nb kws i bs cj++[j] else Nb kws i bs c:=λc=>by
  by_cases hc':c=cj
  ·subst hc';simp[Nb,List.filter_append,hcj]
  ·simp[Nb,List.filter_append,hcj,hc',Ne.symm hc']
 obtain⟨g',hg'⟩:∃ g',v'.ownBlock=some g':=by
  obtain⟨_,⟨_,h0⟩|⟨g,_,_,rfl,_⟩⟩:=hown
  ·omega
  ·exact⟨g,rfl⟩
 have hold:∀ c v g,c≠cj->look l c=some v->v.ownBlock=some g->some g≠((look l cj).getD (.slice none 0 0)).ownBlock/\g≠g'/\g≠mb:=by
  intro c v g hne hl hv;have hb:=h.block hl hv
  have h1:some g≠((look l cj).getD (.slice none 0 0)).ownBlock:=by
   intro q
   cases hlc:look l cj with
   | none=>rw[hlc]at q;simp[Value.ownBlock]at q
   | some u =>
    rw[hlc]at q;exact hne (h.apart c cj v u g hl hlc hv q.symm)
  refine⟨h1,λq=>?_,Om⟩;subst q;rcases hat with q|q
  ·exact h1 (hg'.symm.trans q)
  ·rw[hg']at q;injection q with q;omega
 have hgm:g'≠mb:=by
  have:=(hown.lt g' hg').1;omega
 refine⟨hm,λc=>?_,?_⟩
 ·rw[Wi,e c];by_cases hc':c=cj
  ·subst hc';rw[if_pos rfl,if_pos rfl];refine .inr ⟨hc,v',g',rfl,hg',by simp,?_⟩;rw[List.length_append,List.map_append];refine Qd (w:=w1) ?_ hf ?_
   ·exact hown
   ·exact λg q=>by rw[hg']at q;injection q with q;omega
  ·rw[if_neg (Ne.symm hc'),if_neg hc'];rcases h.row c with h1|⟨h0,v,g,h1,h2,h3,h4⟩
   ·exact .inl h1
   ·obtain⟨a1,a2,a3⟩:=hold c v g hc' h1 h2;refine .inr ⟨h0,v,g,h1,h2,h3,Qd (h4.kept hg (.inr (by rw[h2];exact a1))) hf (λg'' q=>by rw[h2]at q;injection q with q;omega)⟩
 ·intro c c' v u g hl hl' hv hu;rw[Wi]at hl hl';by_cases h1:cj=c<;>by_cases h2:cj=c'
  ·exact h1.symm.trans h2
  ·rw[if_pos h1]at hl;rw[if_neg h2]at hl';injection hl with hl
   subst hl;have:=(hold c' u g (Ne.symm h2) hl' hu).2.1;rw[hg']at hv;injection hv with hv
   exact absurd hv.symm this
  ·rw[if_neg h1]at hl;rw[if_pos h2]at hl';injection hl' with hl'
   subst hl';have:=(hold c v g (Ne.symm h1) hl hv).2.1;rw[hg']at hu;injection hu with hu
   exact absurd hu.symm this
  ·rw[if_neg h1]at hl;rw[if_neg h2]at hl';exact h.apart c c' v u g hl hl' hv hu
end
section
open Go.RowKit TR
def Q2(cs:List UInt8)(ks:List Key)(j:Nat):Nat:=((cs.take j).map λc=>Ro (strip c ks)).sum
theorem Mt{cs:List UInt8}{ks:List Key}{j:Nat}(hj:j<cs.length):Q2 cs ks (j+1)=Q2 cs ks j+Ro (strip cs[j] ks):=by
 unfold Q2;rw[List.take_succ_eq_append_getElem hj,List.map_append,List.sum_append];simp
theorem Zdl{cs:List UInt8}{ks:List Key}(h:cs.Nodup)(j:Nat):Q2 cs ks j+ks.length<=Ro ks:=by
 have h1:=Hj (cs.take j) ks (h.sublist (List.take_sublist j cs));exact h1
def Ups(C:F)(U:Nat->Prop):Prop:=∀ x,U x->x≠0->∃ y:Nat,U y/\C x=(y:Int)
def Fk(wm:World)(dp g0 n0 p:Nat)(B0 C0:F)(U0:Nat->Prop)(b:Nat)(cs:List UInt8)(ks:List Key)(K M j:Nat)(wr:World):Prop :=
 ∃ g n B C U,DA wr dp g n B C/\Laid n0 B0 C0 U0 (λx=>U0 x\/∃ c∈cs,x=b+c.toNat) p b cs ks j n B C U/\Ups C U/\(∀ x,U x->x≠0->∀ c∈cs.drop j,C x≠((b+c.toNat:Nat):Int)) /\
  Few U (K+cs.length+Q2 cs ks j)/\(∀ x,U x->x<M+256+256*Q2 cs ks j)/\n<=134217728/\Fr (two dp g0) wm wr/\(g=g0\/wm.heap.size<=g)
def Ca(w:World)(dp g0 n0 p:Nat)(B0 C0:F)(U0:Nat->Prop)(ks:List Key)(K M:Nat)(w':World):Prop :=
 ∃ g n B C U,DA w' dp g n B C/\FreeOk n B C U/\Hi p n0 B0 C0 U0 n B C U/\Sub n B C (λx=>x=p\/(U x/\¬ U0 x)) p ks/\Ups C U/\Few U (K+Ro ks)/\(∀ x,U x->x<M+256*Ro ks)/\n<=134217728 /\
  Fr (two dp g0) w w'/\(g=g0\/w.heap.size<=g)
variable{wm wr w':World}{dp g0 n0 p b K M j:Nat}{B0 C0:F}{U0:Nat->Prop}{cs:List UInt8}{ks:List Key}
theorem Zgq{w5:World}(h:D7 wm dp g0 n0 p B0 C0 U0 (max M 256) cs b cs.length w5)(hup:Ups C0 U0)(hM:256<=M)(hM2:M<=33554432)(hn0:n0<=134217728)(hU:∀ x,U0 x->x<M)(hp:U0 p)
  (hch:∀ x,U0 x->x≠0->C0 x≠(p:Int)) (hF:Few U0 K):Fk wm dp g0 n0 p B0 C0 U0 b cs ks K M 0 w5:=by
 obtain⟨h1,h2,h3,g,n,B,C,D,G,hb,hc,hK,⟨hn1,hn2⟩,hn3,hFr,hg⟩:=h;rw[List.take_length]at G hc;have hb2:b<=M:=Om
 have hv:Q2 cs ks 0=0:=rfl;refine⟨g,n,B,C,_,D,⟨G,⟨hn1,λx hx=>.inl hx,λx hx hne=>(hK x hx).1 hne,λx hx h0=>(hK x hx).2 h0,?_⟩,hb,λx hx=>hx,λc hc'=>⟨.inr ⟨c,hc',rfl⟩,h3 c hc',hc c hc'⟩,?_,λc hc=>by simp at hc,λc hc=>by simp at hc⟩,?_,?_,?_,?_,Om,hFr,hg⟩
 ·rintro x (hx|⟨c,hc',rfl⟩) hu
  ·exact absurd hx hu
  ·exact⟨p,hc c hc',.inl rfl⟩
 ·rintro x (hx|⟨c,hc',rfl⟩) hxp
  ·exfalso;by_cases hx0:x=0
   ·subst hx0;obtain⟨y,hy,hf⟩:=G.head;have:y≠0:=λe=>hf.2.1 (e▸G.root)
    omega
   ·rw[(hK x hx).2 hx0]at hxp;exact hch x hx hx0 hxp
  ·exact⟨c,hc',rfl⟩
 ·rintro x (hx|⟨c,hc',rfl⟩) hx0
  ·obtain⟨y,hy,e⟩:=hup x hx hx0;exact⟨y,.inl hy,((hK x hx).2 hx0).trans e⟩
  ·exact⟨p,.inl hp,hc c hc'⟩
 ·rintro x (hx|⟨c',hc',rfl⟩) hx0 c hcm e
  ·obtain⟨y,hy,e'⟩:=hup x hx hx0;rw[(hK x hx).2 hx0,e']at e;have:y=b+c.toNat:=Om;exact h3 c (by simpa using hcm) (this▸hy)
  ·rw[hc c' hc']at e;have:p=b+c.toNat:=Om;exact h3 c (by simpa using hcm) (this▸hp)
 ·rw[hv];obtain⟨L,hL,hm⟩:=hF;refine⟨L++cs.map (λc=>b+c.toNat),by simp;omega,λx hx=>?_⟩;rcases hx with h|⟨c,hc,rfl⟩
  ·exact List.mem_append_left _ (hm x h)
  ·exact List.mem_append_right _ (List.mem_map.2 ⟨c,hc,rfl⟩)
 ·rw[hv];rintro x (hx|⟨c,hc',rfl⟩)
  ·have:=hU x hx;omega
  ·have:=c.toNat_lt;omega
theorem Zjn{g n:Nat}{B C:F}{U:Nat->Prop}{v:Int}(hj:j<cs.length)(hz:cs[j]=0)(hp:U0 p)(hasc:cs.Pairwise (· < ·))(hv:∀ i,Vt ks=some i->v = -(i:Int))
  (h:DA wr dp g n B C/\Laid n0 B0 C0 U0 (λx=>U0 x\/∃ c∈cs,x=b+c.toNat) p b cs ks j n B C U/\Ups C U/\(∀ x,U x->x≠0->∀ c∈cs.drop j,C x≠((b+c.toNat:Nat):Int)) /\
   Few U (K+cs.length+Q2 cs ks j)/\(∀ x,U x->x<M+256+256*Q2 cs ks j)/\n<=134217728/\Fr (two dp g0) wm wr/\(g=g0\/wm.heap.size<=g))
  (k:Nat):Fk wm dp g0 n0 p B0 C0 U0 b cs ks K M (j+1) ((wr.drewN k).setCell ⟨g,b*2,none⟩ (.int .i32 v)):=by
 obtain⟨D,L,hu,hd,hF,hM,hn,hFr,hg⟩:=h;have hvs:=Mt (ks:=ks) hj;refine⟨g,n,_,C,U,(D.drewN k).setB b v,L.leaf_step hj hz hp hasc hv,hu,λx hx h0 c hc=>hd x hx h0 c (by rw[List.drop_eq_getElem_cons hj];exact List.mem_cons_of_mem _ hc),hF.mono Om,λx hx=>by have:=hM x hx;omega,hn,?_,hg⟩;refine (hFr.drewN k).setCell _ _ (λhlt=>?_);rcases hg with rfl|hg
 ·exact .inr rfl
 ·simp only at hlt;omega
theorem Zjm{g n:Nat}{B C:F}{U:Nat->Prop}(hj:j<cs.length)(hz:cs[j]≠0)(hb:1<=b)(hp:U0 p)(r0:U0 0)(hnd:cs.Nodup)
  (h:DA wr dp g n B C/\Laid n0 B0 C0 U0 (λx=>U0 x\/∃ c∈cs,x=b+c.toNat) p b cs ks j n B C U/\Ups C U/\(∀ x,U x->x≠0->∀ c∈cs.drop j,C x≠((b+c.toNat:Nat):Int)) /\
   Few U (K+cs.length+Q2 cs ks j)/\(∀ x,U x->x<M+256+256*Q2 cs ks j)/\n<=134217728/\Fr (two dp g0) wm wr/\(g=g0\/wm.heap.size<=g))
  (hx:Ca wr dp g n (b+(cs[j]).toNat) B C U (strip cs[j] ks) (K+cs.length+Q2 cs ks j) (M+256+256*Q2 cs ks j) w'):Fk wm dp g0 n0 p B0 C0 U0 b cs ks K M (j+1) w':=by
 obtain⟨D,L,hu,hd,hF,hM,hn,hFr,hg⟩:=h;obtain⟨g',n',B',C',U',D',G',S',Sb',hu',hF',hM',hn',hFr',hg'⟩:=hx;have hvs:=Mt (ks:=ks) hj;have hq:U (b+(cs[j]).toNat):=L.sub _ (.inr ⟨_,List.getElem_mem hj,rfl⟩);refine⟨g',n',B',C',U',D',L.node_step hj hz hb hp r0 (λx hx=>.inl hx) hnd S' G' Sb',hu',λx hx h0 c hc e=>?_,hF'.mono Om,λx hx=>by have:=hM' x hx;omega,hn',hFr.trans hFr' (Zct hg),?_⟩
 ·have hcd:c∈cs.drop j:=by rw[List.drop_eq_getElem_cons hj];exact List.mem_cons_of_mem _ hc
  have hcm:c∈cs:=List.mem_of_mem_drop hc;have hbc:U (b+c.toNat):=L.sub _ (.inr ⟨c,hcm,rfl⟩)
  have hne:b+c.toNat≠b+(cs[j]).toNat:=by
   intro e;have:c=cs[j]:=UInt8.toNat_inj.1 Om;rw[List.drop_eq_getElem_cons hj]at hcd;have hn:=hnd.sublist (List.drop_sublist j cs);rw[List.drop_eq_getElem_cons hj]at hn;exact (List.nodup_cons.1 hn).1 (this▸hc)
  by_cases hux:U x
  ·rw[S'.check x hux h0]at e;exact hd x hux h0 c hcd e
  ·obtain⟨y,hy,hy'⟩:=S'.fresh x hx hux;have:y=b+c.toNat:=Om;subst this;rcases hy' with hy'|hy'
   ·exact hne hy'
   ·exact hy'.2 hbc
 ·rcases hg' with rfl|hg'
  ·exact hg
  ·exact .inr (Nt hFr.size hg')
theorem Zjp{w:World}(h:Fk wm dp g0 n0 p B0 C0 U0 b cs ks K M cs.length wr)(hb:1<=b)(hp:U0 p)(hl:∀ c,c∈cs↔∃ k∈ks,hd k=c)(hnd:cs.Nodup)(hlen:cs.length<=ks.length)(hks:ks≠[])(hw:Zf w wm):Ca w dp g0 n0 p B0 C0 U0 ks K M wr:=by
 obtain⟨g,n,B,C,U,D,L,hu,hd,hF,hM,hn,hFr,hg⟩:=h;have hv:=Zdl (ks:=ks) hnd cs.length;have hk:0<ks.length:=List.length_pos_iff.2 hks;refine⟨g,n,B,C,U,D,L.good,L.stay,L.done hb (λx hx=>.inl hx) hp hl,hu,hF.mono Om,λx hx=>by have:=hM x hx;omega,hn,?_,hg.imp id (λh=>Nt hw.size h)⟩;exact (hw.mono (λ_ _ e=>e.elim)).trans hFr (λj _ e=>e)
end
section
open Go.RowKit TR
theorem _root_.TR.FreeOk.start{n:Nat}{B C:F}(hn:256<=n)(h0:C 0 = -1)(hB1:B 1 = -((n:Int)-1))(hCn:C (n-1) = -1)(hB:∀ x,2<=x->x<n->B x = -((x:Int)-1))(hC:∀ x,1<=x->x+1<n->C x = -((x:Int)+1)) :
  FreeOk n B C (λx=>x=0):=by
 have hF:Ss n (λx=>x=0) 1:=⟨Om,Om,λz hz=>Om⟩;have hL:Rn n (λx=>x=0) (n-1):=⟨Om,Om,λz h1 h2=>Om⟩;refine⟨hn,rfl,λx hx=>Om,λx hx h=>absurd hx h,λx hx hu=>?_,λx hx hu=>?_,1,by rw[h0];rfl,hF⟩
 ·by_cases e:x+1<n
  ·exact⟨x+1,by rw[hC x Om e];simp,.inl ⟨Om,e,hu,Om,λz h1 h2=>Om⟩⟩
  ·obtain rfl:x=n-1:=Om
   exact⟨1,by rw[hCn];rfl,.inr ⟨hL,hF⟩⟩
 ·by_cases e:x=1
  ·subst e;exact⟨n-1,by rw[hB1];omega,.inr ⟨hL,hF⟩⟩
  ·exact⟨x-1,by rw[hB x Om hx];omega,.inl ⟨Om,hx,Om,hu,λz h1 h2=>Om⟩⟩
theorem Zk7(w:World)(dp m:Nat)(v:Value)(h:w.heap[dp]?=some (.cells #[v] 217 (0,0))) :
  DA ((w.setCell ⟨dp,0,none⟩ (.slice (some ⟨w.heap.size,0,none⟩) m m)).alloc (.cells (madeCells #[.int .i32 0,.int .i32 0] (m*2)) 396)) dp w.heap.size m (λ_=>0) (λ_=>0):=by
 have hdp:dp<w.heap.size:=(Gs1.1 h).1;have h1:=one_setCell h (u:=.slice (some ⟨w.heap.size,0,none⟩) m m);have hs:(w.setCell ⟨dp,0,none⟩ (.slice (some ⟨w.heap.size,0,none⟩) m m)).heap.size=w.heap.size:=by simp[World.setCell]
 generalize w.setCell _ _=w1 at h1 hs⊢;refine⟨by rw[alloc_old _ _ Om];exact h1,madeCells #[.int .i32 0,.int .i32 0] (m*2),alloc_at' _ _ hs.symm,by simp[size_madeCells],λi hi=>?_⟩;have h0:i*2<m*2:=Om
 have h1:i*2+1<m*2:=Om
 have e0:i*2 % 2=0:=Om
 have e1:(i*2+1) % 2=1:=Om
 simp[madeCells,h0,h1,e0,e1]
def Zjw(w:World)(dp N i:Nat)(wr:World):Prop :=
 ∃ B C,DA wr dp w.heap.size N B C/\B 0=1/\C 0 = -1/\(∀ x,1<=x->x<i->B x = -((x:Int)-1)/\C x = -((x:Int)+1))/\Fr (λk=>k=dp) w wr
theorem Zat(w:World)(dp:Nat)(v:Value)(h:w.heap[dp]?=some (.cells #[v] 217 (0,0))) :
  Calls Tryz.prog 259 #[.pointer (some ⟨dp,0,none⟩)] w λe w'=>e=.returned (.tuple #[])/\∃ B C,DA w' dp w.heap.size 51200 B C/\FreeOk 51200 B C (λx=>x=0)/\B 0=1/\Fr (λk=>k=dp) w w':=by
 have hmk:∀ W:World,(Instr.makeSlice 217 (.int .i64 51200) (.int .i64 51200)).run Tryz.prog W =
   .ok (.slice (some ⟨W.heap.size,0,none⟩) 51200 51200) (W.alloc (.cells (madeCells #[.int .i32 0,.int .i32 0] (51200*2)) 396)):=λW=>De 51200 Om W
 have hdp:dp<w.heap.size:=(Gs1.1 h).1;have p0:w.cell? ⟨dp,0,none⟩=some v:=by simp[World.cell?,h]
 have f0:w.frozen? ⟨dp,0,none⟩=false:=by simp[World.frozen?,h]
 have p1:∀ o,(w.alloc o).cell? ⟨dp,0,none⟩=some v:=λo=>((Fe w).alloc o).cell p0 id
 have f1:∀ o,(w.alloc o).frozen? ⟨dp,0,none⟩=false:=λo=>(((Fe w).alloc o).frozen p0 id).trans f0
 go_enter Tryz.func259,Tryz.ntmps259
 go_upto_region 1 with fail
 have D:DA ((w.setCell ⟨dp,0,none⟩ (.slice (some ⟨w.heap.size,0,none⟩) 51200 51200)).alloc (.cells (madeCells #[.int .i32 0,.int .i32 0] 102400) 396)) dp w.heap.size 51200 (λ_=>0) (λ_=>0) :=
  Zk7 w dp 51200 v h
 have F:Fr (λk=>k=dp) w ((w.setCell ⟨dp,0,none⟩ (.slice (some ⟨w.heap.size,0,none⟩) 51200 51200)).alloc (.cells (madeCells #[.int .i32 0,.int .i32 0] 102400) 396)):=((Fr.refl (λk=>k=dp) w).setCell ⟨dp,0,none⟩ _ (λ_=>rfl)).alloc _;generalize World.alloc _ _=w1 at D F⊢;clear p1 f1 p0 f0 hmk;have q0:=D.pc;have q1:=D.b 0 Om;have q2:=D.c 0 Om;have f1:=D.gf;have q3:=D.pcs 0;have q4:=D.bsc 0 Om;simp only[Nat.zero_mul,Nat.zero_add]at q1 q2 q4
 have HI:Hid (Zjw w dp 51200 1 ((w1.setCell ⟨w.heap.size,0,none⟩ (.int .i32 1)).setCell ⟨w.heap.size,1,none⟩ (.int .i32 (-1)))):=by
  have D2:=(D.setB 0 1).setC 0 (-1);simp only[Nat.zero_mul,Nat.zero_add]at D2;exact⟨_,_,D2,Y0 _ _ _,Y0 _ _ _,λx h1 h2=>Om,(F.setCell _ _ (λh=>absurd h (Nat.lt_irrefl _))).setCell _ _ (λh=>absurd h (Nat.lt_irrefl _))⟩
 have q5:((w1.setCell ⟨w.heap.size,0,none⟩ (.int .i32 1)).setCell ⟨w.heap.size,1,none⟩ (.int .i32 (-1))).cell? ⟨dp,0,none⟩=_:=(by obtain⟨B,C,D2,_⟩:=HI.out;exact D2.pc);have HD:=Hd (Ai1 D F);clear D F;go_wp2_with fail
 generalize (w1.setCell ⟨w.heap.size,0,none⟩ (.int .i32 1)).setCell ⟨w.heap.size,1,none⟩ (.int .i32 (-1))=w2 at HI q5⊢;clear q0 q1 q2 q3 q4 f1;obtain⟨N,hN⟩:∃ N:Nat,N=51200:=⟨_,rfl⟩;have hNI:(51200:Int)=(N:Int):=Om
 rw[hNI];rw[<- hN]at HI q5⊢;have hN1:N<=51200:=Om
 have hN2:256<=N:=Om
 have HN:=Hd hN;clear hNI hN
 go_loopw [3] (λv wr=>∃ i:Nat,1<=i/\i<=N/\v=.int .i64 i/\Hid (Zjw w dp N i wr)) (λv _=>N-(intOf v).toNat)
 case atStart=>exact⟨1,Om,Om,rfl,HI⟩
 case round =>
  clear HI q5;obtain⟨i,hi1,hi2,rfl,HR⟩:=hrel;obtain⟨Bi,Ci,D,hb0,hc0,S,F⟩:=HR.out;have q1:=D.pc;by_cases hlt:i<N
  ·have q2:=D.pcs (i*2);have b1:=D.b i hlt;have c1:=D.bsc i hlt;have f1:=D.gf (i*2);have f2:=D.gf (i*2+1);have HS:=Hd (Ai1 D (Ai1 hb0 (Ai1 hc0 (Ai1 S F))));clear D hb0 hc0 S F HR
   go_wp2
   go_roundw
   case rel =>
    obtain⟨D,hb0,hc0,S,F⟩:=HS.out;refine⟨i+1,Om,Om,by go_num,(show Hid _ from⟨_,_,(D.setB i _).setC i _,by rw[Yd _ _ Om];exact hb0,by rw[Yd _ _ Om];exact hc0,λx h1 h2=>?_,(F.setCell _ _ (λh=>absurd h (Nat.lt_irrefl _))).setCell _ _ (λh=>absurd h (Nat.lt_irrefl _))⟩)⟩;by_cases e:x=i
    ·subst e;rw[Y0,Y0];exact⟨rfl,rfl⟩
    ·rw[Yd _ _ e,Yd _ _ e];exact S x h1 Om
   case measure=>simp[intOf];omega
  ·obtain rfl:i=N:=Om
   have b1:=D.b 1 Om;have c1:=D.c (i-1) Om;have q2:=D.pcs (1*2);have f1:=D.gf;have c2:(wr.setCell ⟨w.heap.size,2,none⟩ (.int .i32 (-((i:Int)-1)))).cell? ⟨w.heap.size,(i-1)*2+1,none⟩=some (.int .i32 (Ci (i-1))):=(D.setB 1 (-((i:Int)-1))).c (i-1) Om;have HS:=Hd (Ai1 D (Ai1 hb0 (Ai1 hc0 (Ai1 S F))));clear D hb0 hc0 S F HR;simp only[Nat.one_mul]at b1 q2
   go_wp2
   go_end0
   obtain⟨D,hb0,hc0,S,F⟩:=HS.out;have D2:=(D.setB 1 (-((i:Int)-1))).setC (i-1) (-1);rw[<- HN.out];refine⟨rfl,_,_,D2,?_,by rw[Yd _ _ Om];exact hb0,(F.setCell _ _ (λh=>absurd h (Nat.lt_irrefl _))).setCell _ _ (λh=>absurd h (Nat.lt_irrefl _))⟩;refine FreeOk.start Om ?_ ?_ ?_ ?_ ?_
   ·rw[Yd _ _ Om];exact hc0
   ·rw[Y0]
   ·exact Y0 _ _ _
   ·intro x h1 h2;rw[Yd _ _ Om];exact (S x Om h2).1
   ·intro x h1 h2;rw[Yd _ _ Om];exact (S x h1 Om).2
end
section
open Go.RowKit TR
theorem Hg{w:World}{dp g n m:Nat}{B C:F}(h:DA w dp g n B C)(hm:m<=n):∀ j v,(Xe m B C)[j]?=some v->w.cell? ((⟨g,0,none⟩:Addr).add j)=some v:=by
 intro j v hv
 have hj:j<m*2:=by
  rw[<- Zt m B C];exact (Gl.1 hv).1
 have ha:(⟨g,0,none⟩:Addr).add j=⟨g,j,none⟩:=by unfold Addr.add;split<;>simp_all
 rw[ha];rcases Nat.mod_two_eq_zero_or_one j with e|e
 ·obtain⟨i,rfl⟩:∃ i,j=i*2:=⟨j / 2,Om⟩;rw[(Ur m B C i Om).1]at hv;rw[h.b i Om];exact hv
 ·obtain⟨i,rfl⟩:∃ i,j=i*2+1:=⟨j / 2,Om⟩;rw[(Ur m B C i Om).2]at hv;rw[h.c i Om];exact hv
theorem Eb(w:World)(dp g n:Nat)(B C:F)(h:DA w dp g n B C)(hn:n<=268435456)(hpos:1<=n) :
  Calls Tryz.prog 261 #[.pointer (some ⟨dp,0,none⟩)] w λe w'=>e=.returned (.tuple #[])/\∃ g' m,m<=n/\DA w' dp g' m B C/\(∀ x,m<=x->x<n->C x<0)/\Fr (λk=>k=dp) w w'/\(g'=g\/w.heap.size<=g'):=by
 have p0:=h.pc;have f0:=h.pf 0;have HH:=Hd h;clear h;go_enter Tryz.func261,Tryz.ntmps261
 go_upto_block 0 with fail
 go_cut [2] from 11 to 28 (λs wx=>∃ m:Nat,m<=n/\s=.int .i64 m/\wx=w/\Hid (∀ x,m<=x->x<n->C x<0))
 case first =>
  go_wp2_with fail
  go_loopw [2,3] (λs v wr=>∃ i:Nat,i<=n/\v=.int .i64 i/\s=.int .i64 ((n-i:Nat):Int)/\wr=w/\Hid (∀ x,n-i<=x->x<n->C x<0)) (λ_ v _=>n-(intOf v).toNat)
  case atStart=>exact⟨0,Nat.zero_le _,rfl,rfl,rfl,λx h1 h2=>Om⟩
  case round =>
   obtain⟨i,hi,rfl,rfl,rfl,HX⟩:=hrel;by_cases hlt:i<n
   ·obtain⟨x,hx⟩:∃ x,n=x+1+i:=⟨n-i-1,Om⟩;have e1:(n:Int)-(i:Int)-1=(x:Int):=Om;have e2:((n-i:Nat):Int)-1=((n-(i+1):Nat):Int):=Om;have c1:=HH.out.c x Om;have hxn:x<n:=Om;have HE:=Hd hx;clear hx;by_cases hneg:C x<0
    ·go_wp2
     go_roundw
     case rel =>
      refine⟨i+1,Om,by go_num,by first|rfl|go_num,by first|rfl|trivial,λy h1 h2=>?_⟩;have hx:=HE.out;by_cases e:y=x
      ·subst e;exact hneg
      ·exact HX.out y Om h2
     case measure=>simp[intOf];omega
    ·go_wp2
     go_meet
     case rel=>exact⟨n-i,Om,rfl,rfl,HX⟩
   ·obtain rfl:i=n:=Om
    go_wp2_with fail
    go_meet
    case rel=>exact⟨0,Om,by go_num,rfl,λy h1 h2=>HX.out y Om h2⟩
 case rest =>
  obtain⟨m,hm,rfl,rfl,HX⟩:=hcut;by_cases hmn:m=n
  ·subst hmn;go_wp2_with fail
   exact bodyPost_ret (results_none rfl _ _ _) rfl ⟨rfl,g,m,Nl _,HH.out,HX.out,Fl _,.inl rfl⟩
  ·have hne:((m:Int)==(n:Int))=false:=beq_eq_false_iff_ne.2 Om;have hmk:=De m Om;go_upto_region 9 with fail
   generalize hW:World.alloc _ _=W;have hE:Zf wc W:=by rw[<- hW];exact ((Fl _).alloc _).alloc _
   have D1:DA W dp g n B C:=HH.out.keep hE id id
   have D2:DA W wc.heap.size (wc.heap.size+1) m (λ_=>0) (λ_=>0):=by
    refine⟨by rw[<- hW,alloc_old _ _ (by rw[Za];omega),alloc_at],madeCells #[.int .i32 0,.int .i32 0] (m*2),by rw[<- hW];exact alloc_at' _ _ (by rw[Za]),by simp[size_madeCells],λi hi=>?_⟩;have h0:i*2<m*2:=Om;have h1:i*2+1<m*2:=Om;have e0:i*2 % 2=0:=Om;have e1:(i*2+1) % 2=1:=Om;simp[madeCells,h0,h1,e0,e1]
   have HE:=Hd hE;clear hW hE;have q1:=D2.pc;have q0:=D1.pc;refine Ud 8 Kr Kr ?_;simp only[List.take_succ_cons,List.take_zero,List.drop_succ_cons,List.drop_zero]
   repeat still_step
   refine wpStill_nil ?_;obtain⟨cur,hcur,hsz,hcells⟩:=D2.arr
   have hcp:∀ ty,(Builtin.copy_ #[217,217] ty #[.slice (some ⟨wc.heap.size+1,0,none⟩) m m,.slice (some ⟨g,0,none⟩) m n]).run Tryz.prog W.drew=_:=λty =>
    P9 W.drew _ _ ty _ _ _ _ 2 ⟨g,0,none⟩ m n cur _ (Xe m B C) Tryz.underlying217 Zhg hcur (Nl _) (Zt _ _ _) (Hg D1.drew hm) (by rw[Zt];omega) (Kb _ _ _)
   have D3:=copied (B:=B) (C:=C) ((Om:m<=m)) D2.drew.ptr hcur hsz hcells;have F3:Zf wc (W.drew.setRow (wc.heap.size+1) (Xe m B C++cur.toList.drop (Xe m B C).length).toArray):=HE.out.drew.setRow _ _ (λh=>Om);have D4:DA _ wc.heap.size (wc.heap.size+1) m B C:=D3.congr (λi hi=>(if_pos hi).symm) (λi hi=>(if_pos hi).symm);go_upto_region 10 with fail
   generalize World.setRow _ _ _=W1 at D3 D4 F3⊢;have r0:=D4.pc;have D5:DA W1 dp g n B C:=HH.out.keep F3 id id;have r1:=D5.pc;have r2:=D5.pf;have HD:=Hd (Ai1 D4 (Ai1 F3 D5.ptr));clear D1 D2 HE q1 q0 hcur hsz hcells hcp D3 D4 D5 F3 p0 f0 hmk;go_wp2_with fail
   go_end0
   exact⟨rfl,_,m,hm,HD.out.1.repoint HD.out.2.2,HX.out,(HD.out.2.1.mono (λ_ _ e=>e.elim)).setCell _ _ (λ_=>rfl),.inr (Nat.le_succ _)⟩
end
end Go.Proofs.YtlfoalomaofejaaGreatDoor
