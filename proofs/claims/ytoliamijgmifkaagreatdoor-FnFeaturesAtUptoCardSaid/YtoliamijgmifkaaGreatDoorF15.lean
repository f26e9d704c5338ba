/- add: a node's keys in groups by their next sign. · add: what is laid, child by child (no walk here). -/
import Derived.Test.YtoliamijgmifkaaGreatDoorF14
import Derived.Laws.IdiomStrings
import Derived.Deep.CutBlock
set_option linter.all false
set_option maxRecDepth 100000
set_option maxHeartbeats 1000000
namespace Go.Proofs.YtoliamijgmifkaaGreatDoor
section
open Go.RowKit TR
abbrev Mh:UInt8->Value:=fun c=>Value.int .u8 (c.toNat:Int)
def Vo(kws:List ByteArray)(i j:Nat):List UInt8:=((kws[j]?).getD ByteArray.empty).data.toList.drop i
def Yq(kws:List ByteArray)(i j:Nat):UInt8:=(Vo kws i j).headD 0
def T2(kws:List ByteArray)(ids:List Nat)(i j:Nat):Key:=(Vo kws i j,(ids[j]?).getD 0)
abbrev Zs(kws:List ByteArray)(ids:List Nat)(i:Nat)(bs:List Nat):List Key:=bs.map (T2 kws ids i)
abbrev grp(kws:List ByteArray)(i:Nat)(bs:List Nat)(c:UInt8):List Nat:=bs.filter fun j=>Yq kws i j==c
theorem Zga(kws:List ByteArray)(ids:List Nat)(i j:Nat):hd (T2 kws ids i j)=Yq kws i j:=rfl
theorem Ey{kws:List ByteArray}{i j:Nat}{a:UInt8}{t:List UInt8}(h:Vo kws i j=a::t):Vo kws (i+1) j=t:=by
 unfold Vo at h⊢;rw[<- List.drop_drop,h];rfl
theorem Rf(kws:List ByteArray)(ids:List Nat)(i:Nat)(bs:List Nat){c:UInt8}(hc:c≠0):strip c (Zs kws ids i bs)=Zs kws ids (i+1) (grp kws i bs c):=by
 induction bs with
 | nil=>rfl
 | cons j bs ih =>
  rw[show Zs kws ids i (j::bs)=T2 kws ids i j::Zs kws ids i bs from rfl,Vy,ih];simp only[grp,List.filter_cons];have e:(T2 kws ids i j).1=Vo kws i j:=rfl;rw[e]
  cases hr:Vo kws i j with
  | nil =>
   have:Yq kws i j=0:=by simp[Yq,hr]
   rw[this,if_neg (by simpa using Ne.symm hc)];rfl
  | cons a t =>
   have:Yq kws i j=a:=by simp[Yq,hr]
   rw[this];by_cases h:a=c
   ·subst h;simp[T2,Ey hr]
   ·simp[h]
theorem mem_hd{kws:List ByteArray}{ids:List Nat}{i:Nat}{bs:List Nat}{c:UInt8}:(∃ k∈Zs kws ids i bs,hd k=c) ↔ c∈bs.map (Yq kws i):=by
 constructor
 ·rintro⟨k,hk,rfl⟩;obtain⟨j,hj,rfl⟩:=List.mem_map.1 hk;exact List.mem_map.2 ⟨j,hj,rfl⟩
 ·intro h;obtain⟨j,hj,rfl⟩:=List.mem_map.1 h;exact⟨_,List.mem_map.2 ⟨j,hj,rfl⟩,rfl⟩
theorem Srt.first_end{k0:Key}{ks:List Key}(h:Srt (k0::ks)){i:Nat}(he:Vk (k0::ks)=some i):i=k0.2:=by
 obtain⟨k,hk,hke⟩:=Rz.1 ⟨i,he⟩
 have h0:k0.1=[]:=by
  rcases List.mem_cons.1 hk with rfl|hk
  ·exact hke
  ·have:=(List.pairwise_cons.1 h).1 k hk;rw[hke]at this
   cases hs:k0.1 with
   | nil=>rfl
   | cons a t=>rw[hs]at this;simp[lex]at this
 simp[Vk,h0]at he;exact he.symm
structure Rows(kws:List ByteArray)(i base mb:Nat)(bs:List Nat)(l:List (UInt8 × Value))(w:World):Prop where
 map:Zx Mh mb l w
 row:∀ c,(look l c=none/\(c=0\/grp kws i bs c=[])) \/
  (c≠0/\∃ v g,look l c=some v/\v.ownBlock=some g/\grp kws i bs c≠[]/\w.ownsRow base 3 1 v (grp kws i bs c).length ((grp kws i bs c).map fun j=>.int .i64 ((j:Nat):Int)))
 apart:∀ c c' v v' g,look l c=some v->look l c'=some v'->v.ownBlock=some g->v'.ownBlock=some g->c=c'
variable{kws:List ByteArray}{i base mb:Nat}{bs:List Nat}{l:List (UInt8 × Value)}{w w':World}
theorem Rows.at(h:Rows kws i base mb bs l w){c:UInt8}{v:Value}(hl:look l c=some v) :
  c≠0/\∃ g,v.ownBlock=some g/\grp kws i bs c≠[]/\w.ownsRow base 3 1 v (grp kws i bs c).length ((grp kws i bs c).map fun j=>.int .i64 ((j:Nat):Int)):=by
 rcases h.row c with ⟨h1,_⟩|⟨h0,v',g,h1,h2,h3,h4⟩
 ·rw[hl]at h1;cases h1
 ·rw[hl]at h1;cases h1;exact⟨h0,g,h2,h3,h4⟩
theorem Rows.none0(h:Rows kws i base mb bs l w):look l 0=none:=by
 rcases h.row 0 with ⟨h1,_⟩|⟨h0,_⟩
 ·exact h1
 ·exact absurd rfl h0
theorem Rh{S:Nat->Prop}{e:TypeId}{sz n:Nat}{v:Value}{xs:List Value}(h:w.ownsRow base e sz v n xs)(f:Fr S w w')(hs:∀ g,v.ownBlock=some g->¬ S g):w'.ownsRow base e sz v n xs:=by
 obtain⟨h1,h2|⟨g,cap,cur,rfl,a1,a2,a3⟩⟩:=h
 ·exact⟨h1,.inl h2⟩
 ·exact⟨h1,.inr ⟨g,cap,cur,rfl,a1,f.heap a2 (hs g rfl),a3⟩⟩
theorem Rows.keep(h:Rows kws i base mb bs l w){S:Nat->Prop}(f:Fr S w w')(hm:¬ S mb)(hs:∀ c v g,look l c=some v->v.ownBlock=some g->¬ S g):Rows kws i base mb bs l w':=by
 refine⟨h.map.keep f hm,fun c=>?_,h.apart⟩;rcases h.row c with h1|⟨h0,v,g,h1,h2,h3,h4⟩
 ·exact .inl h1
 ·exact .inr ⟨h0,v,g,h1,h2,h3,Rh h4 f (fun g' hg'=>hs c v g' h1 hg')⟩
theorem Rows.alloc(h:Rows kws i base mb bs l w)(o:Obj):Rows kws i base mb bs l (w.alloc o):=h.keep ((Fr.refl (fun _=>False) w).alloc o) id (fun _ _ _ _ _=>id)
theorem Rows.block(h:Rows kws i base mb bs l w){c:UInt8}{v:Value}{g:Nat}(hl:look l c=some v)(hg:v.ownBlock=some g):base<=g/\g<w.heap.size:=by
 obtain⟨_,g',h2,_,h4⟩:=h.at hl;exact h4.lt g hg
theorem Rows.skip(h:Rows kws i base mb bs l w){j:Nat}(hj:Yq kws i j=0):Rows kws i base mb (bs++[j]) l w:=by
 have e:∀ c,c≠0->grp kws i (bs++[j]) c=grp kws i bs c:=fun c hc=>by simp[grp,List.filter_append,hj,Ne.symm hc]
 refine⟨h.map,fun c=>?_,h.apart⟩;by_cases hc:c=0
 ·subst hc;exact .inl ⟨h.none0,.inl rfl⟩
 ·rw[e c hc];exact h.row c
theorem Rows.or_nil(h:Rows kws i base mb bs l w){c:UInt8}(hc:c≠0) :
  w.ownsRow base 3 1 ((look l c).getD (.slice none 0 0)) (grp kws i bs c).length ((grp kws i bs c).map fun j=>.int .i64 ((j:Nat):Int)):=by
 rcases h.row c with ⟨h1,h2⟩|⟨h0,v,g,h1,h2,h3,h4⟩
 ·rw[h1,h2.resolve_left hc];exact World.ownsRow_nil _ _ _ _
 ·rw[h1];exact h4
theorem Rows.map_grown{w1:World}{o:Obj}{c:UInt8}(h:Rows kws i base mb bs l w)(hg:(w.alloc o).grownBy w1 ((look l c).getD (.slice none 0 0)).ownBlock)(hmb:mb<base):Zx Mh mb l w1:=by
 have f:Fr (fun j=>some j=((look l c).getD (.slice none 0 0)).ownBlock) (w.alloc o) w1:=⟨hg.os,hg.tape,hg.output,hg.size,fun j hj hn=>hg.block j hj hn⟩;refine (h.map.alloc o).keep f (fun e=>?_)
 cases hl:look l c with
 | none=>rw[hl]at e;simp[Value.ownBlock]at e
 | some v =>
  rw[hl]at e;have:=(h.block hl e.symm).1;omega
theorem Rows.step{w1 w2:World}{v':Value}{j:Nat}{cj:UInt8}(h:Rows kws i base mb bs l w)(hmb:mb<base)(hbs:base<=w.heap.size)(hcj:Yq kws i j=cj)(hc:cj≠0)
  (hown:w1.ownsRow base 3 1 v' ((grp kws i bs cj).length+1) ((grp kws i bs cj).map (fun j=>.int .i64 ((j:Nat):Int))++[.int .i64 ((j:Nat):Int)]))
  (hg:w.grownBy w1 ((look l cj).getD (.slice none 0 0)).ownBlock) (hat:v'.ownBlock=((look l cj).getD (.slice none 0 0)).ownBlock\/v'.ownBlock=some w.heap.size)
  (hm:Zx Mh mb (put l cj v') w2) (hf:Fr (fun k=>k=mb) w1 w2):Rows kws i base mb (bs++[j]) (put l cj v') w2:=by
 have e:∀ c,grp kws i (bs++[j]) c=if c=cj then grp kws i bs cj++[j] else grp kws i bs c:=fun c=>by
  by_cases hc':c=cj
  ·subst hc';simp[grp,List.filter_append,hcj]
  ·simp[grp,List.filter_append,hcj,hc',Ne.symm hc']
 obtain⟨g',hg'⟩:∃ g',v'.ownBlock=some g':=by
  obtain⟨_,⟨_,h0⟩|⟨g,_,_,rfl,_⟩⟩:=hown
  ·omega
  ·exact⟨g,rfl⟩
 have hold:∀ c v g,c≠cj->look l c=some v->v.ownBlock=some g->some g≠((look l cj).getD (.slice none 0 0)).ownBlock/\g≠g'/\g≠mb:=by
  intro c v g hne hl hv;have hb:=h.block hl hv
  have h1:some g≠((look l cj).getD (.slice none 0 0)).ownBlock:=by
   intro q
   cases hlc:look l cj with
   | none=>rw[hlc]at q;simp[Value.ownBlock]at q
   | some u =>
    rw[hlc]at q;exact hne (h.apart c cj v u g hl hlc hv q.symm)
  refine⟨h1,fun q=>?_,by omega⟩;subst q;rcases hat with q|q
  ·exact h1 (hg'.symm.trans q)
  ·rw[hg']at q;injection q with q;omega
 have hgm:g'≠mb:=by
  have:=(hown.lt g' hg').1;omega
 refine⟨hm,fun c=>?_,?_⟩
 ·rw[Wd,e c];by_cases hc':c=cj
  ·subst hc';rw[if_pos rfl,if_pos rfl];refine .inr ⟨hc,v',g',rfl,hg',by simp,?_⟩;rw[List.length_append,List.map_append];refine Rh (w:=w1) ?_ hf ?_
   ·exact hown
   ·exact fun g q=>by rw[hg']at q;injection q with q;omega
  ·rw[if_neg (Ne.symm hc'),if_neg hc'];rcases h.row c with h1|⟨h0,v,g,h1,h2,h3,h4⟩
   ·exact .inl h1
   ·obtain⟨a1,a2,a3⟩:=hold c v g hc' h1 h2;refine .inr ⟨h0,v,g,h1,h2,h3,Rh (h4.kept hg (.inr (by rw[h2];exact a1))) hf (fun g'' q=>by rw[h2]at q;injection q with q;omega)⟩
 ·intro c c' v u g hl hl' hv hu;rw[Wd]at hl hl';by_cases h1:cj=c <;> by_cases h2:cj=c'
  ·exact h1.symm.trans h2
  ·rw[if_pos h1]at hl;rw[if_neg h2]at hl';injection hl with hl
   subst hl;have:=(hold c' u g (Ne.symm h2) hl' hu).2.1;rw[hg']at hv;injection hv with hv
   exact absurd hv.symm this
  ·rw[if_neg h1]at hl;rw[if_pos h2]at hl';injection hl' with hl'
   subst hl';have:=(hold c v g (Ne.symm h1) hl hv).2.1;rw[hg']at hu;injection hu with hu
   exact absurd hu.symm this
  ·rw[if_neg h1]at hl;rw[if_neg h2]at hl';exact h.apart c c' v u g hl hl' hv hu
end
section
open Go.RowKit TR
def Qf(cs:List UInt8)(ks:List Key)(j:Nat):Nat:=((cs.take j).map fun c=>vol (strip c ks)).sum
theorem Nu{cs:List UInt8}{ks:List Key}{j:Nat}(hj:j<cs.length):Qf cs ks (j+1)=Qf cs ks j+vol (strip cs[j] ks):=by
 unfold Qf;rw[List.take_succ_eq_append_getElem hj,List.map_append,List.sum_append];simp
theorem Za8{cs:List UInt8}{ks:List Key}(h:cs.Nodup)(j:Nat):Qf cs ks j+ks.length<=vol ks:=by
 have h1:=Jx (cs.take j) ks (h.sublist (List.take_sublist j cs));exact h1
def Ups(C:F)(U:Nat->Prop):Prop:=∀ x,U x->x≠0->∃ y:Nat,U y/\C x=(y:Int)
def Hd(wm:World)(dp g0 n0 p:Nat)(B0 C0:F)(U0:Nat->Prop)(b:Nat)(cs:List UInt8)(ks:List Key)(K M j:Nat)(wr:World):Prop :=
 ∃ g n B C U,DA wr dp g n B C/\Laid n0 B0 C0 U0 (fun x=>U0 x\/∃ c∈cs,x=b+c.toNat) p b cs ks j n B C U/\Ups C U/\(∀ x,U x->x≠0->∀ c∈cs.drop j,C x≠((b+c.toNat:Nat):Int)) /\
  Few U (K+cs.length+Qf cs ks j)/\(∀ x,U x->x<M+256+256*Qf cs ks j)/\n<=134217728/\Fr (two dp g0) wm wr/\(g=g0\/wm.heap.size<=g)
def Fk(w:World)(dp g0 n0 p:Nat)(B0 C0:F)(U0:Nat->Prop)(ks:List Key)(K M:Nat)(w':World):Prop :=
 ∃ g n B C U,DA w' dp g n B C/\FreeOk n B C U/\Jw p n0 B0 C0 U0 n B C U/\Sub n B C (fun x=>x=p\/(U x/\¬ U0 x)) p ks/\Ups C U/\Few U (K+vol ks)/\(∀ x,U x->x<M+256*vol ks)/\n<=134217728 /\
  Fr (two dp g0) w w'/\(g=g0\/w.heap.size<=g)
variable{wm wr w':World}{dp g0 n0 p b K M j:Nat}{B0 C0:F}{U0:Nat->Prop}{cs:List UInt8}{ks:List Key}
theorem Zed{w5:World}(h:Fg wm dp g0 n0 p B0 C0 U0 (max M 256) cs b cs.length w5)(hup:Ups C0 U0)(hM:256<=M)(hM2:M<=33554432)(hn0:n0<=134217728)(hU:∀ x,U0 x->x<M)(hp:U0 p)
  (hch:∀ x,U0 x->x≠0->C0 x≠(p:Int)) (hF:Few U0 K):Hd wm dp g0 n0 p B0 C0 U0 b cs ks K M 0 w5:=by
 obtain⟨h1,h2,h3,g,n,B,C,D,G,hb,hc,hK,⟨hn1,hn2⟩,hn3,hFr,hg⟩:=h;rw[List.take_length]at G hc;have hb2:b<=M:=by omega
 have hv:Qf cs ks 0=0:=rfl;refine⟨g,n,B,C,_,D,⟨G,⟨hn1,fun x hx=>.inl hx,fun x hx hne=>(hK x hx).1 hne,fun x hx h0=>(hK x hx).2 h0,?_⟩,hb,fun x hx=>hx,fun c hc'=>⟨.inr ⟨c,hc',rfl⟩,h3 c hc',hc c hc'⟩,?_,fun c hc=>by simp at hc,fun c hc=>by simp at hc⟩,?_,?_,?_,?_,by omega,hFr,hg⟩
 ·rintro x (hx|⟨c,hc',rfl⟩) hu
  ·exact absurd hx hu
  ·exact⟨p,hc c hc',.inl rfl⟩
 ·rintro x (hx|⟨c,hc',rfl⟩) hxp
  ·exfalso;by_cases hx0:x=0
   ·subst hx0;obtain⟨y,hy,hf⟩:=G.head;have:y≠0:=fun e=>hf.2.1 (e ▸ G.root)
    omega
   ·rw[(hK x hx).2 hx0]at hxp;exact hch x hx hx0 hxp
  ·exact⟨c,hc',rfl⟩
 ·rintro x (hx|⟨c,hc',rfl⟩) hx0
  ·obtain⟨y,hy,e⟩:=hup x hx hx0;exact⟨y,.inl hy,((hK x hx).2 hx0).trans e⟩
  ·exact⟨p,.inl hp,hc c hc'⟩
 ·rintro x (hx|⟨c',hc',rfl⟩) hx0 c hcm e
  ·obtain⟨y,hy,e'⟩:=hup x hx hx0;rw[(hK x hx).2 hx0,e']at e;have:y=b+c.toNat:=by omega
   exact h3 c (by simpa using hcm) (this ▸ hy)
  ·rw[hc c' hc']at e;have:p=b+c.toNat:=by omega
   exact h3 c (by simpa using hcm) (this ▸ hp)
 ·rw[hv];obtain⟨L,hL,hm⟩:=hF;refine⟨L++cs.map (fun c=>b+c.toNat),by simp;omega,fun x hx=>?_⟩;rcases hx with h|⟨c,hc,rfl⟩
  ·exact List.mem_append_left _ (hm x h)
  ·exact List.mem_append_right _ (List.mem_map.2 ⟨c,hc,rfl⟩)
 ·rw[hv];rintro x (hx|⟨c,hc',rfl⟩)
  ·have:=hU x hx;omega
  ·have:=c.toNat_lt;omega
theorem Zg9{g n:Nat}{B C:F}{U:Nat->Prop}{v:Int}(hj:j<cs.length)(hz:cs[j]=0)(hp:U0 p)(hasc:cs.Pairwise (· < ·))(hv:∀ i,Vk ks=some i->v = -(i:Int))
  (h:DA wr dp g n B C/\Laid n0 B0 C0 U0 (fun x=>U0 x\/∃ c∈cs,x=b+c.toNat) p b cs ks j n B C U/\Ups C U/\(∀ x,U x->x≠0->∀ c∈cs.drop j,C x≠((b+c.toNat:Nat):Int)) /\
   Few U (K+cs.length+Qf cs ks j)/\(∀ x,U x->x<M+256+256*Qf cs ks j)/\n<=134217728/\Fr (two dp g0) wm wr/\(g=g0\/wm.heap.size<=g))
  (k:Nat):Hd wm dp g0 n0 p B0 C0 U0 b cs ks K M (j+1) ((wr.drewN k).setCell ⟨g,b*2,none⟩ (.int .i32 v)):=by
 obtain⟨D,L,hu,hd,hF,hM,hn,hFr,hg⟩:=h;have hvs:=Nu (ks:=ks) hj;refine⟨g,n,_,C,U,(D.drewN k).setB b v,L.leaf_step hj hz hp hasc hv,hu,fun x hx h0 c hc=>hd x hx h0 c (by rw[List.drop_eq_getElem_cons hj];exact List.mem_cons_of_mem _ hc),hF.mono (by omega),fun x hx=>by have:=hM x hx;omega,hn,?_,hg⟩;refine (hFr.drewN k).setCell _ _ (fun hlt=>?_);rcases hg with rfl|hg
 ·exact .inr rfl
 ·simp only at hlt;omega
theorem Zg8{g n:Nat}{B C:F}{U:Nat->Prop}(hj:j<cs.length)(hz:cs[j]≠0)(hb:1<=b)(hp:U0 p)(r0:U0 0)(hnd:cs.Nodup)
  (h:DA wr dp g n B C/\Laid n0 B0 C0 U0 (fun x=>U0 x\/∃ c∈cs,x=b+c.toNat) p b cs ks j n B C U/\Ups C U/\(∀ x,U x->x≠0->∀ c∈cs.drop j,C x≠((b+c.toNat:Nat):Int)) /\
   Few U (K+cs.length+Qf cs ks j)/\(∀ x,U x->x<M+256+256*Qf cs ks j)/\n<=134217728/\Fr (two dp g0) wm wr/\(g=g0\/wm.heap.size<=g))
  (hx:Fk wr dp g n (b+(cs[j]).toNat) B C U (strip cs[j] ks) (K+cs.length+Qf cs ks j) (M+256+256*Qf cs ks j) w'):Hd wm dp g0 n0 p B0 C0 U0 b cs ks K M (j+1) w':=by
 obtain⟨D,L,hu,hd,hF,hM,hn,hFr,hg⟩:=h;obtain⟨g',n',B',C',U',D',G',S',Sb',hu',hF',hM',hn',hFr',hg'⟩:=hx;have hvs:=Nu (ks:=ks) hj;have hq:U (b+(cs[j]).toNat):=L.sub _ (.inr ⟨_,List.getElem_mem hj,rfl⟩);refine⟨g',n',B',C',U',D',L.node_step hj hz hb hp r0 (fun x hx=>.inl hx) hnd S' G' Sb',hu',fun x hx h0 c hc e=>?_,hF'.mono (by omega),fun x hx=>by have:=hM' x hx;omega,hn',hFr.trans hFr' (Zaj hg),?_⟩
 ·have hcd:c∈cs.drop j:=by rw[List.drop_eq_getElem_cons hj];exact List.mem_cons_of_mem _ hc
  have hcm:c∈cs:=List.mem_of_mem_drop hc;have hbc:U (b+c.toNat):=L.sub _ (.inr ⟨c,hcm,rfl⟩)
  have hne:b+c.toNat≠b+(cs[j]).toNat:=by
   intro e;have:c=cs[j]:=UInt8.toNat_inj.1 (by omega);rw[List.drop_eq_getElem_cons hj]at hcd;have hn:=hnd.sublist (List.drop_sublist j cs);rw[List.drop_eq_getElem_cons hj]at hn;exact (List.nodup_cons.1 hn).1 (this ▸ hc)
  by_cases hux:U x
  ·rw[S'.check x hux h0]at e;exact hd x hux h0 c hcd e
  ·obtain⟨y,hy,hy'⟩:=S'.fresh x hx hux;have:y=b+c.toNat:=by omega
   subst this;rcases hy' with hy'|hy'
   ·exact hne hy'
   ·exact hy'.2 hbc
 ·rcases hg' with rfl|hg'
  ·exact hg
  ·exact .inr (Nat.le_trans hFr.size hg')
theorem Zhb{w:World}(h:Hd wm dp g0 n0 p B0 C0 U0 b cs ks K M cs.length wr)(hb:1<=b)(hp:U0 p)(hl:∀ c,c∈cs ↔ ∃ k∈ks,hd k=c)(hnd:cs.Nodup)(hlen:cs.length<=ks.length)(hks:ks≠[])(hw:Ext w wm):Fk w dp g0 n0 p B0 C0 U0 ks K M wr:=by
 obtain⟨g,n,B,C,U,D,L,hu,hd,hF,hM,hn,hFr,hg⟩:=h;have hv:=Za8 (ks:=ks) hnd cs.length;have hk:0<ks.length:=List.length_pos_iff.2 hks;refine⟨g,n,B,C,U,D,L.good,L.stay,L.done hb (fun x hx=>.inl hx) hp hl,hu,hF.mono (by omega),fun x hx=>by have:=hM x hx;omega,hn,?_,hg.imp id (fun h=>Nat.le_trans hw.size h)⟩;exact (hw.mono (fun _ _ e=>e.elim)).trans hFr (fun j _ e=>e)
end
section
open Go.RowKit TR
theorem _root_.TR.FreeOk.start{n:Nat}{B C:F}(hn:256<=n)(h0:C 0 = -1)(hB1:B 1 = -((n:Int)-1))(hCn:C (n-1) = -1)(hB:∀ x,2<=x->x<n->B x = -((x:Int)-1))(hC:∀ x,1<=x->x+1<n->C x = -((x:Int)+1)) :
  FreeOk n B C (fun x=>x=0):=by
 have hF:Tj n (fun x=>x=0) 1:=⟨by omega,by omega,fun z hz=>by omega⟩;have hL:Tr n (fun x=>x=0) (n-1):=⟨by omega,by omega,fun z h1 h2=>by omega⟩;refine⟨hn,rfl,fun x hx=>by omega,fun x hx h=>absurd hx h,fun x hx hu=>?_,fun x hx hu=>?_,1,by rw[h0];rfl,hF⟩
 ·by_cases e:x+1<n
  ·exact⟨x+1,by rw[hC x (by omega) e];simp,.inl ⟨by omega,e,hu,by omega,fun z h1 h2=>by omega⟩⟩
  ·obtain rfl:x=n-1:=by omega
   exact⟨1,by rw[hCn];rfl,.inr ⟨hL,hF⟩⟩
 ·by_cases e:x=1
  ·subst e;exact⟨n-1,by rw[hB1];omega,.inr ⟨hL,hF⟩⟩
  ·exact⟨x-1,by rw[hB x (by omega) hx];omega,.inl ⟨by omega,hx,by omega,hu,fun z h1 h2=>by omega⟩⟩
theorem Zij(w:World)(dp m:Nat)(v:Value)(h:w.heap[dp]? = some (.cells #[v] 163 (0,0))) :
  DA ((w.setCell ⟨dp,0,none⟩ (.slice (some ⟨w.heap.size,0,none⟩) m m)).alloc (.cells (madeCells #[.int .i32 0,.int .i32 0] (m*2)) 282)) dp w.heap.size m (fun _=>0) (fun _=>0):=by
 have hdp:dp<w.heap.size:=(Array.getElem?_eq_some_iff.1 h).1;have h1:=one_setCell h (u:=.slice (some ⟨w.heap.size,0,none⟩) m m);have hs:(w.setCell ⟨dp,0,none⟩ (.slice (some ⟨w.heap.size,0,none⟩) m m)).heap.size=w.heap.size:=by simp[World.setCell]
 generalize w.setCell _ _=w1 at h1 hs⊢;refine⟨by rw[alloc_old _ _ (by omega)];exact h1,madeCells #[.int .i32 0,.int .i32 0] (m*2),alloc_at' _ _ hs.symm,by simp[size_madeCells],fun i hi=>?_⟩;have h0:i*2<m*2:=by omega
 have h1:i*2+1<m*2:=by omega
 have e0:i*2 % 2=0:=by omega
 have e1:(i*2+1) % 2=1:=by omega
 simp[madeCells,h0,h1,e0,e1]
def Zhi(w:World)(dp N i:Nat)(wr:World):Prop :=
 ∃ B C,DA wr dp w.heap.size N B C/\B 0=1/\C 0 = -1/\(∀ x,1<=x->x<i->B x = -((x:Int)-1)/\C x = -((x:Int)+1))/\Fr (fun k=>k=dp) w wr
theorem D8(w:World)(dp:Nat)(v:Value)(h:w.heap[dp]? = some (.cells #[v] 163 (0,0))) :
  Calls Tryz.prog 149 #[.pointer (some ⟨dp,0,none⟩)] w fun e w'=>e = .returned (.tuple #[])/\∃ B C,DA w' dp w.heap.size 51200 B C/\FreeOk 51200 B C (fun x=>x=0)/\B 0=1/\Fr (fun k=>k=dp) w w':=by
 have hmk:∀ W:World,(Instr.makeSlice 163 (.int .i64 51200) (.int .i64 51200)).run Tryz.prog W =
   .ok (.slice (some ⟨W.heap.size,0,none⟩) 51200 51200) (W.alloc (.cells (madeCells #[.int .i32 0,.int .i32 0] (51200*2)) 282)):=fun W=>Gx 51200 (by omega) W
 have hdp:dp<w.heap.size:=(Array.getElem?_eq_some_iff.1 h).1;have p0:w.cell? ⟨dp,0,none⟩=some v:=by simp[World.cell?,h]
 have f0:w.frozen? ⟨dp,0,none⟩=false:=by simp[World.frozen?,h]
 have p1:∀ o,(w.alloc o).cell? ⟨dp,0,none⟩=some v:=fun o=>((Fr.refl (fun _=>False) w).alloc o).cell p0 id
 have f1:∀ o,(w.alloc o).frozen? ⟨dp,0,none⟩=false:=fun o=>(((Fr.refl (fun _=>False) w).alloc o).frozen p0 id).trans f0
 go_enter Tryz.func149,Tryz.ntmps149
 go_upto_region 1 with fail
 have D:DA ((w.setCell ⟨dp,0,none⟩ (.slice (some ⟨w.heap.size,0,none⟩) 51200 51200)).alloc (.cells (madeCells #[.int .i32 0,.int .i32 0] 102400) 282)) dp w.heap.size 51200 (fun _=>0) (fun _=>0) :=
  Zij w dp 51200 v h
 have F:Fr (fun k=>k=dp) w ((w.setCell ⟨dp,0,none⟩ (.slice (some ⟨w.heap.size,0,none⟩) 51200 51200)).alloc (.cells (madeCells #[.int .i32 0,.int .i32 0] 102400) 282)):=((Fr.refl (fun k=>k=dp) w).setCell ⟨dp,0,none⟩ _ (fun _=>rfl)).alloc _;generalize World.alloc _ _=w1 at D F⊢;clear p1 f1 p0 f0 hmk;have q0:=D.pc;have q1:=D.b 0 (by omega);have q2:=D.c 0 (by omega);have f1:=D.gf;have q3:=D.pcs 0;have q4:=D.bsc 0 (by omega);simp only[Nat.zero_mul,Nat.zero_add]at q1 q2 q4
 have HI:Hid (Zhi w dp 51200 1 ((w1.setCell ⟨w.heap.size,0,none⟩ (.int .i32 1)).setCell ⟨w.heap.size,1,none⟩ (.int .i32 (-1)))):=by
  have D2:=(D.setB 0 1).setC 0 (-1);simp only[Nat.zero_mul,Nat.zero_add]at D2;exact⟨_,_,D2,Yw _ _ _,Yw _ _ _,fun x h1 h2=>by omega,(F.setCell _ _ (fun h=>absurd h (Nat.lt_irrefl _))).setCell _ _ (fun h=>absurd h (Nat.lt_irrefl _))⟩
 have q5:((w1.setCell ⟨w.heap.size,0,none⟩ (.int .i32 1)).setCell ⟨w.heap.size,1,none⟩ (.int .i32 (-1))).cell? ⟨dp,0,none⟩=_:=(by obtain⟨B,C,D2,_⟩:=HI.out;exact D2.pc);have HD:=Lib.hid (And.intro D F);clear D F;go_wp2_with fail
 generalize (w1.setCell ⟨w.heap.size,0,none⟩ (.int .i32 1)).setCell ⟨w.heap.size,1,none⟩ (.int .i32 (-1))=w2 at HI q5⊢;clear q0 q1 q2 q3 q4 f1;obtain⟨N,hN⟩:∃ N:Nat,N=51200:=⟨_,rfl⟩;have hNI:(51200:Int)=(N:Int):=by omega
 rw[hNI];rw[<- hN]at HI q5⊢;have hN1:N<=51200:=by omega
 have hN2:256<=N:=by omega
 have HN:=Lib.hid hN;clear hNI hN
 go_loopw [3] (fun v wr=>∃ i:Nat,1<=i/\i<=N/\v = .int .i64 i/\Hid (Zhi w dp N i wr)) (fun v _=>N-(intOf v).toNat)
 case atStart=>exact⟨1,by omega,by omega,rfl,HI⟩
 case round =>
  clear HI q5;obtain⟨i,hi1,hi2,rfl,HR⟩:=hrel;obtain⟨Bi,Ci,D,hb0,hc0,S,F⟩:=HR.out;have q1:=D.pc;by_cases hlt:i<N
  ·have q2:=D.pcs (i*2);have b1:=D.b i hlt;have c1:=D.bsc i hlt;have f1:=D.gf (i*2);have f2:=D.gf (i*2+1);have HS:=Lib.hid (And.intro D (And.intro hb0 (And.intro hc0 (And.intro S F))));clear D hb0 hc0 S F HR
   go_wp2
   go_roundw
   case rel =>
    obtain⟨D,hb0,hc0,S,F⟩:=HS.out;refine⟨i+1,by omega,by omega,by go_num,(show Hid _ from⟨_,_,(D.setB i _).setC i _,by rw[Yc _ _ (by omega)];exact hb0,by rw[Yc _ _ (by omega)];exact hc0,fun x h1 h2=>?_,(F.setCell _ _ (fun h=>absurd h (Nat.lt_irrefl _))).setCell _ _ (fun h=>absurd h (Nat.lt_irrefl _))⟩)⟩;by_cases e:x=i
    ·subst e;rw[Yw,Yw];exact⟨rfl,rfl⟩
    ·rw[Yc _ _ e,Yc _ _ e];exact S x h1 (by omega)
   case measure=>simp[intOf];omega
  ·obtain rfl:i=N:=by omega
   have b1:=D.b 1 (by omega);have c1:=D.c (i-1) (by omega);have q2:=D.pcs (1*2);have f1:=D.gf;have c2:(wr.setCell ⟨w.heap.size,2,none⟩ (.int .i32 (-((i:Int)-1)))).cell? ⟨w.heap.size,(i-1)*2+1,none⟩=some (.int .i32 (Ci (i-1))):=(D.setB 1 (-((i:Int)-1))).c (i-1) (by omega);have HS:=Lib.hid (And.intro D (And.intro hb0 (And.intro hc0 (And.intro S F))));clear D hb0 hc0 S F HR;simp only[Nat.one_mul]at b1 q2
   go_wp2
   go_end0
   obtain⟨D,hb0,hc0,S,F⟩:=HS.out;have D2:=(D.setB 1 (-((i:Int)-1))).setC (i-1) (-1);rw[<- HN.out];refine⟨rfl,_,_,D2,?_,by rw[Yc _ _ (by omega)];exact hb0,(F.setCell _ _ (fun h=>absurd h (Nat.lt_irrefl _))).setCell _ _ (fun h=>absurd h (Nat.lt_irrefl _))⟩;refine FreeOk.start (by omega) ?_ ?_ ?_ ?_ ?_
   ·rw[Yc _ _ (by omega)];exact hc0
   ·rw[Yw]
   ·exact Yw _ _ _
   ·intro x h1 h2;rw[Yc _ _ (by omega)];exact (S x (by omega) h2).1
   ·intro x h1 h2;rw[Yc _ _ (by omega)];exact (S x h1 (by omega)).2
end
section
open Go.RowKit TR
theorem Jv{w:World}{dp g n m:Nat}{B C:F}(h:DA w dp g n B C)(hm:m<=n):∀ j v,(Y8 m B C)[j]? = some v->w.cell? ((⟨g,0,none⟩:Addr).add j)=some v:=by
 intro j v hv
 have hj:j<m*2:=by
  rw[<- Zq m B C];exact (List.getElem?_eq_some_iff.1 hv).1
 have ha:(⟨g,0,none⟩:Addr).add j=⟨g,j,none⟩:=by unfold Addr.add;split <;> simp_all
 rw[ha];rcases Nat.mod_two_eq_zero_or_one j with e|e
 ·obtain⟨i,rfl⟩:∃ i,j=i*2:=⟨j / 2,by omega⟩;rw[(Ue m B C i (by omega)).1]at hv;rw[h.b i (by omega)];exact hv
 ·obtain⟨i,rfl⟩:∃ i,j=i*2+1:=⟨j / 2,by omega⟩;rw[(Ue m B C i (by omega)).2]at hv;rw[h.c i (by omega)];exact hv
theorem Hq(w:World)(dp g n:Nat)(B C:F)(h:DA w dp g n B C)(hn:n<=268435456)(hpos:1<=n) :
  Calls Tryz.prog 152 #[.pointer (some ⟨dp,0,none⟩)] w fun e w'=>e = .returned (.tuple #[])/\∃ g' m,m<=n/\DA w' dp g' m B C/\(∀ x,m<=x->x<n->C x<0)/\Fr (fun k=>k=dp) w w'/\(g'=g\/w.heap.size<=g'):=by
 have p0:=h.pc;have f0:=h.pf 0;have HH:=Lib.hid h;clear h;go_enter Tryz.func152,Tryz.ntmps152
 go_upto_block 0 with fail
 go_cut [2] from 11 to 28 (fun s wx=>∃ m:Nat,m<=n/\s = .int .i64 m/\wx=w/\Hid (∀ x,m<=x->x<n->C x<0))
 case first =>
  go_wp2_with fail
  go_loopw [2,3] (fun s v wr=>∃ i:Nat,i<=n/\v = .int .i64 i/\s = .int .i64 ((n-i:Nat):Int)/\wr=w/\Hid (∀ x,n-i<=x->x<n->C x<0)) (fun _ v _=>n-(intOf v).toNat)
  case atStart=>exact⟨0,Nat.zero_le _,rfl,rfl,rfl,fun x h1 h2=>by omega⟩
  case round =>
   obtain⟨i,hi,rfl,rfl,rfl,HX⟩:=hrel;by_cases hlt:i<n
   ·obtain⟨x,hx⟩:∃ x,n=x+1+i:=⟨n-i-1,by omega⟩;have e1:(n:Int)-(i:Int)-1=(x:Int):=by omega
    have e2:((n-i:Nat):Int)-1=((n-(i+1):Nat):Int):=by omega
    have c1:=HH.out.c x (by omega);have hxn:x<n:=by omega
    have HE:=Lib.hid hx;clear hx;by_cases hneg:C x<0
    ·go_wp2
     go_roundw
     case rel =>
      refine⟨i+1,by omega,by go_num,by first|rfl|go_num,by first|rfl|trivial,fun y h1 h2=>?_⟩;have hx:=HE.out;by_cases e:y=x
      ·subst e;exact hneg
      ·exact HX.out y (by omega) h2
     case measure=>simp[intOf];omega
    ·go_wp2
     go_meet
     case rel=>exact⟨n-i,by omega,rfl,rfl,HX⟩
   ·obtain rfl:i=n:=by omega
    go_wp2_with fail
    go_meet
    case rel=>exact⟨0,by omega,by go_num,rfl,fun y h1 h2=>HX.out y (by omega) h2⟩
 case rest =>
  obtain⟨m,hm,rfl,rfl,HX⟩:=hcut;by_cases hmn:m=n
  ·subst hmn;go_wp2_with fail
   exact bodyPost_ret (results_none rfl _ _ _) rfl ⟨rfl,g,m,Nat.le_refl _,HH.out,HX.out,Fr.refl _ _,.inl rfl⟩
  ·have hne:((m:Int)==(n:Int))=false:=beq_eq_false_iff_ne.2 (by omega);have hmk:=Gx m (by omega);go_upto_region 9 with fail
   generalize hW:World.alloc _ _=W;have hE:Ext wc W:=by rw[<- hW];exact ((Fr.refl _ _).alloc _).alloc _
   have D1:DA W dp g n B C:=HH.out.keep hE id id
   have D2:DA W wc.heap.size (wc.heap.size+1) m (fun _=>0) (fun _=>0):=by
    refine⟨by rw[<- hW,alloc_old _ _ (by rw[Za];omega),alloc_at],madeCells #[.int .i32 0,.int .i32 0] (m*2),by rw[<- hW];exact alloc_at' _ _ (by rw[Za]),by simp[size_madeCells],fun i hi=>?_⟩;have h0:i*2<m*2:=by omega
    have h1:i*2+1<m*2:=by omega
    have e0:i*2 % 2=0:=by omega
    have e1:(i*2+1) % 2=1:=by omega
    simp[madeCells,h0,h1,e0,e1]
   have HE:=Lib.hid hE;clear hW hE;have q1:=D2.pc;have q0:=D1.pc;refine V0 8 (by kernel_rfl) (by kernel_rfl) ?_;simp only[List.take_succ_cons,List.take_zero,List.drop_succ_cons,List.drop_zero]
   repeat still_step
   refine wpStill_nil ?_;obtain⟨cur,hcur,hsz,hcells⟩:=D2.arr
   have hcp:∀ ty,(Builtin.copy_ #[163,163] ty #[.slice (some ⟨wc.heap.size+1,0,none⟩) m m,.slice (some ⟨g,0,none⟩) m n]).run Tryz.prog W.drew=_:=fun ty =>
    Pg W.drew _ _ ty _ _ _ _ 2 ⟨g,0,none⟩ m n cur _ (Y8 m B C) Tryz.underlying163 Ze5 hcur (Nat.le_refl _) (Zq _ _ _) (Jv D1.drew hm) (by rw[Zq];omega) (M9 _ _ _)
   have D3:=copied (B:=B) (C:=C) (show m<=m by omega) D2.drew.ptr hcur hsz hcells;have F3:Ext wc (W.drew.setRow (wc.heap.size+1) (Y8 m B C++cur.toList.drop (Y8 m B C).length).toArray):=HE.out.drew.setRow _ _ (fun h=>by omega);have D4:DA _ wc.heap.size (wc.heap.size+1) m B C:=D3.congr (fun i hi=>(if_pos hi).symm) (fun i hi=>(if_pos hi).symm);go_upto_region 10 with fail
   generalize World.setRow _ _ _=W1 at D3 D4 F3⊢;have r0:=D4.pc;have D5:DA W1 dp g n B C:=HH.out.keep F3 id id;have r1:=D5.pc;have r2:=D5.pf;have HD:=Lib.hid (And.intro D4 (And.intro F3 D5.ptr));clear D1 D2 HE q1 q0 hcur hsz hcells hcp D3 D4 D5 F3 p0 f0 hmk;go_wp2_with fail
   go_end0
   exact⟨rfl,_,m,hm,HD.out.1.repoint HD.out.2.2,HX.out,(HD.out.2.1.mono (fun _ _ e=>e.elim)).setCell _ _ (fun _=>rfl),.inr (Nat.le_succ _)⟩
end
end Go.Proofs.YtoliamijgmifkaaGreatDoor
