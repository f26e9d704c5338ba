/- A row that is owned of data of -/
import Derived.Test.YtlfoalomaofejaaGreatDoorM37
import Derived.Test.YtlfoalomaofejaaGreatDoorM31
set_option linter.all false
set_option maxRecDepth 100000
set_option maxHeartbeats 2000000
namespace Go.Proofs.YtlfoalomaofejaaGreatDoor
section
open Go.RowKit DT
def P0(P:Program)(T:TypeId)(n b:Nat):Prop:=∃ i,P.info? T=some i/\∃ z:Value,i.zero=some z/\i.size=n/\i.bytes=b/\z.cells.size=n
theorem Rq{P:Program}{T:TypeId}{n b:Nat}(h:(P.info? T).map (λi=>(i.zero.map (λz=>z.cells.size),i.size,i.bytes))=some (some n,n,b)):P0 P T n b:=by
 cases hi:P.info? T with
 | none=>rw[hi]at h;cases h
 | some i =>
  rw[hi]at h;simp only[Option.map_some,Option.some.injEq,Prod.mk.injEq]at h;obtain⟨h1,h2,h3⟩:=h
  cases q:i.zero with
  | none=>rw[q]at h1;cases h1
  | some z =>
   rw[q]at h1;exact⟨i,hi,z,q,h2,h3,by simpa using h1⟩
def RowK{α:Type}(d:Ty α)(T:TypeId)(v:Value)(xs:List α)(B:Nat)(w:World):Prop :=
 ∃ h:List (List Value),h.length=xs.length/\w.ownsRow B T d.sz v xs.length h.flatten/\∀ i (_:i<xs.length) (_:i<h.length),d.R w (λj=>B<=j/\v.ownBlock≠some j) xs[i] h[i]
section
variable{P:Program}{α:Type}{d:Ty α}{T:TypeId}{v:Value}{xs:List α}{B:Nat}{w w':World}
theorem RowK.nil(w:World):RowK d T (.slice none 0 0) ([]:List α) B w:=⟨[],rfl,World.ownsRow_nil _ _ _ _,λi h=>by simp at h⟩
theorem RowK.own(h:RowK d T v xs B w):∃ A c,v=.slice A xs.length c:=by
 obtain⟨_,_,q,_⟩:=h;exact Zm q
theorem RowK.low(h:RowK d T v xs B w):∀ j,v.ownBlock=some j->B<=j/\j<w.heap.size:=by
 obtain⟨_,_,q,_⟩:=h;exact λj e=>⟨Yo (g:=j) q e,Ip q e⟩
theorem RowK.keep{S:Nat->Prop}(h:RowK d T v xs B w)(f:Fr S w w')(G:∀ j,B<=j->j<w.heap.size->¬ S j):RowK d T v xs B w':=by
 obtain⟨L,K,A,h1⟩:=h;exact⟨L,K,Zr A f (λj e=>G j (Yo (g:=j) A e) (Ip A e)),λi hi J=>d.keep (h1 i hi J) f (λk I q=>G k q.1 I)⟩
theorem RowK.ext(h:RowK d T v xs B w)(f:Zf w w'):RowK d T v xs B w':=h.keep f (λ_ _ _=>id)
theorem RowK.base{B':Nat}(h:RowK d T v xs B w)(G:B'<=B):RowK d T v xs B' w:=by
 obtain⟨M,L,⟨hl,I⟩,h1⟩:=h;refine⟨M,L,⟨hl,I.imp id ?_⟩,λi hi J=>d.mono (λk _ q=>⟨Nt G q.1,q.2⟩) (h1 i hi J)⟩;rintro⟨g,cap,A,e,K,r⟩;exact⟨g,cap,A,e,Nt G K,r⟩
theorem Ic{m:Nat}:∀ (q:List (List Value)) (i j:Nat) (hi:i<q.length),(∀ e∈q,e.length=m)->j<m->q.flatten[i*m+j]?=q[i][j]?
 | e::q,0,j,_,h,hj=>by
  rw[List.flatten_cons,Nat.zero_mul,Nat.zero_add,List.getElem?_append_left (by rw[h e (by simp)];exact hj)];rfl
 | e::q,i+1,j,hi,h,hj=>by
  have A:=h e (by simp);rw[List.flatten_cons,List.getElem?_append_right (by rw[A,Nat.add_mul];omega),A,show (i+1)*m+j-m=i*m+j by rw[Nat.add_mul];omega];exact Ic q i j (by simpa using hi) (λx G=>h x (by simp[G])) hj
theorem RowK.slice(h:RowK d T v xs B w):(Ty.slice d).R w (λj=>B<=j) xs [v]:=by
 obtain⟨G,Y,K,h1⟩:=h
 have A:∀ e∈G,e.length=d.sz:=by
  intro e M;obtain⟨i,hi,rfl⟩:=List.getElem_of_mem M;exact d.len (h1 i Om hi)
 rcases id K.2 with ⟨rfl,L⟩|⟨g,cap,W,rfl,V,U,h2,h3,h4,X⟩
 ·have:xs=[]:=List.eq_nil_of_length_eq_zero L;subst this;exact⟨none,0,rfl,Nl _,λ_=>rfl,by simp,.inl rfl⟩
 ·refine⟨some ⟨g,0,none⟩,cap,rfl,h2,(by intro e;cases e),by unfold maxLen at h3;omega,.inr ⟨g,0,rfl,V,(Gs1.1 U).1,λi hi=>⟨G[i]' Om,d.mono (λ_ _ q=>q.1) (h1 i hi Om),λj J=>?_⟩⟩⟩;have I:j<d.sz:=by rw[A _ (List.getElem_mem ((Om:i<G.length)))]at J;exact J
  have e:G.flatten[i*d.sz+j]?=some ((G[i]' Om)[j]):=by rw[Ic G i j Om A I];exact Ge J
  have:=K.cells (g:=g) rfl _ _ e;rw[Addr.add_lit,Nat.zero_add]at this;rw[Nat.zero_add];exact this
theorem RowK.snoc{x:α}{cs:List Value}{G:Value}(h:RowK d T v xs B w)(V:d.R w (λj=>B<=j/\v.ownBlock≠some j) x cs)(hg:w.grownBy w' v.ownBlock)(L:G.ownBlock=v.ownBlock\/G.ownBlock=some w.heap.size)
  (Y:∀ A:List (List Value),A.length=xs.length->w.ownsRow B T d.sz v xs.length A.flatten->w'.ownsRow B T d.sz G (xs.length+1) (A.flatten++cs)):RowK d T G (xs++[x]) B w':=by
 obtain⟨A,J,X,h1⟩:=h;have F:Fr (λj=>v.ownBlock=some j) w w':=(Fl w).grown hg (λk e _=>e)
 have I:∀ {x:α} {cs:List Value},d.R w (λj=>B<=j/\v.ownBlock≠some j) x cs->d.R w' (λj=>B<=j/\G.ownBlock≠some j) x cs:=by
  intro x cs W;refine d.mono (O:=λj=>(B<=j/\v.ownBlock≠some j)/\j<w.heap.size) (λk _ q=>⟨q.1.1,λe=>?_⟩) (d.keep (d.mono (λk Z q=>⟨q,Z⟩) W) F (λk _ q e=>q.1.2 e));rcases L with z|z
  ·exact q.1.2 (z▸e)
  ·rw[z]at e;injection e with e;have:=q.2;omega
 refine⟨A++[cs],by simp[J],?_,λi hi hj=>?_⟩
 ·rw[List.flatten_append,List.flatten_cons,List.flatten_nil,List.append_nil,List.length_append,List.length_singleton];exact Y A J X
 ·rcases Nat.lt_or_ge i xs.length with q|q
  ·have U:(xs++[x])[i]=xs[i]:=List.getElem_append_left q;have M:(A++[cs])[i]=A[i]' Om:=List.getElem_append_left Om;rw[U,M];exact I (h1 i q Om)
  ·have K:i=xs.length:=by rw[List.length_append,List.length_singleton]at hi;omega
   subst K;have U:(xs++[x])[xs.length]=x:=(by simp);have M:(A++[cs])[xs.length]'(by simp[J])=cs:=(by simp[<- J]);rw[U,M];exact I V
theorem RowK.run{x:α}{cs:List Value}{t ty:TypeId}{q:Nat}{L:Addr}(h:RowK d T v xs B w)(X:P.underlying t=some (.slice T))(hi:P0 P T d.sz q)(Y:0<d.sz)(U:q<=10000)(hn:xs.length<=4294967296)(hB:B<=w.heap.size)
  (hc:∀ j u,cs[j]?=some u->w.cell? (L.add j)=some u) (I:d.R w (λj=>B<=j/\v.ownBlock≠some j) x cs) :
  ∃ A w',(Builtin.append_ #[t,t] ty #[v,.slice (some L) 1 1]).run P w=.ok A w'/\RowK d T A (xs++[x]) B w'/\Fr (λj=>v.ownBlock=some j) w w'/\(A.ownBlock=v.ownBlock\/A.ownBlock=some w.heap.size):=by
 obtain⟨i,hi,z,W,J,hb,G⟩:=hi;obtain⟨es,h0,ho,h1⟩:=h;have hm:xs.length*q<=4294967296*10000:=Nat.mul_le_mul hn U;obtain⟨A,w',Z,h2,h3,_,h5⟩:=run_append_own_at (P:=P) w B t ty T i z d.sz q X hi W J hb G Y v xs.length es.flatten ho L 1 1 cs (by rw[d.len I,Nat.one_mul]) hc (d.one I) (by unfold maxLen;omega) (by rw[Nat.add_mul];omega) hB;refine⟨A,w',Z,RowK.snoc ⟨es,h0,ho,h1⟩ I h3 h5 (λV aa M=>?_),(Fl w).grown h3 (λk e _=>e),h5⟩;obtain⟨v2,w2,K,k2,_⟩:=run_append_own_at (P:=P) w B t ty T i z d.sz q X hi W J hb G Y v xs.length V.flatten M L 1 1 cs (by rw[d.len I,Nat.one_mul]) hc (d.one I) (by unfold maxLen;omega) (by rw[Nat.add_mul];omega) hB;rw[Z]at K;cases K;exact k2
theorem RowK.op{ops:Array Oper}{o:Oper}{a:Act}{K:Act->World->Prop}{Q:Exit->Act->World->Prop}{E:Prop}(hg:o.guard=none)(s y:Operand)(t:TypeId)(G:o.op=Op.call { callee:=Callee.builtin Builtin.append,args:=#[s,y],argTypes:=#[t,t] })
  (x:α) (cs:List Value) (A:Nat) (J:Addr) (Y:P.underlying t=some (.slice T)) (hi:P0 P T d.sz A) (Z:0<d.sz) (I:A<=10000) (he:a.eval s=v) (V:a.eval y=.slice (some J) 1 1) (h:RowK d T v xs B w) (hn:xs.length<=4294967296) (hB:B<=w.heap.size)
  (hc:∀ j u,cs[j]?=some u->w.cell? (J.add j)=some u) (W:d.R w (λj=>B<=j/\v.ownBlock≠some j) x cs) (hK:∀ q w',RowK d T q (xs++[x]) B w'->Fr (λj=>v.ownBlock=some j) w w'->(q.ownBlock=v.ownBlock\/q.ownBlock=some w.heap.size)->K (a.put o.dst q) w') :
  if Region.wanted o (yielded ops a.tmps)=true then Oper.wp P o a w K Q else E:=by
 have X:Region.wanted o (yielded ops a.tmps)=true:=by simp[Region.wanted,hg]
 rw[if_pos X];obtain⟨q,w',hr,U,M,L⟩:=h.run (t:=t) (ty:=o.type) Y hi Z I hn hB hc W;unfold Oper.wp;simp only[execOp,G,resolve,invoke,builtin,Sem.run_bind,Sem.run_pure,Result.andThen_ok,List.map_toArray,List.map_cons,List.map_nil,he,V,hr];exact hK q w' U M L
theorem RowK.lst{ops:Array Oper}{rest:List Oper}{o:Oper}{a:Act}{Q:Exit->Act->World->Prop}(hg:o.guard=none)(s y:Operand)(t:TypeId)(G:o.op=Op.call { callee:=Callee.builtin Builtin.append,args:=#[s,y],argTypes:=#[t,t] })
  (x:α) (cs:List Value) (A:Nat) (L:Addr) (Y:P.underlying t=some (.slice T)) (hi:P0 P T d.sz A) (Z:0<d.sz) (I:A<=10000) (he:a.eval s=v) (W:a.eval y=.slice (some L) 1 1) (h:RowK d T v xs B w) (hn:xs.length<=4294967296) (hB:B<=w.heap.size)
  (hc:∀ j u,cs[j]?=some u->w.cell? (L.add j)=some u) (X:d.R w (λj=>B<=j/\v.ownBlock≠some j) x cs) (hK:∀ q w',RowK d T q (xs++[x]) B w'->Fr (λj=>v.ownBlock=some j) w w'->(q.ownBlock=v.ownBlock\/q.ownBlock=some w.heap.size)->wpList P ops Q rest (a.put o.dst q) w') :
  wpList P ops Q (o::rest) a w:=by
 obtain⟨q,w',hr,V,U,M⟩:=h.run (t:=t) (ty:=o.type) Y hi Z I hn hB hc X;refine wpList_plain hg λK J=>?_
 unfold Oper.wp execOp;simp only[G,resolve,invoke,builtin,Sem.run_bind,Sem.run_pure,Result.andThen_ok,List.map_toArray,List.map_cons,List.map_nil,he,W,hr];exact J _ _ (hK q w' V U M)
end
end
section
open Go
def Y1(ops:Array Oper)(i:Nat):Option Tmp:=(ops[i]?).bind (·.dst)
def Xc(ops:Array Oper)(vals:Nat->Value):List Nat->Act->Act
 | [],a=>a
 | i::l,a=>Xc ops vals l (a.put (Y1 ops i) (vals i))
section
variable{P:Program}{ops:Array Oper}{Q:Exit->Act->World->Prop}{S:World->Prop}{z:Nat}{vals:Nat->Value}
theorem Zao(a:Act)(d:Option Tmp)(v:Value):(a.put d v).tmps.size=a.tmps.size:=by cases d<;>simp[Act.put]
theorem put_defers(a:Act)(d:Option Tmp)(v:Value):(a.put d v).defers=a.defers:=by cases d<;>rfl
theorem Up:∀ (l:List Nat) (a:Act),(Xc ops vals l a).tmps.size=a.tmps.size
 | [],_=>rfl
 | i::l,a=>by rw[Xc,Up l,Zao]
theorem Pj:∀ (l:List Nat) (a:Act),(Xc ops vals l a).defers=a.defers
 | [],_=>rfl
 | i::l,a=>by rw[Xc,Pj l,put_defers]
theorem Kh:∀ (l:List Nat) (i:Nat) (a:Act),Xc ops vals (l++[i]) a=(Xc ops vals l a).put (Y1 ops i) (vals i)
 | [],_,_=>rfl
 | _::l,i,_=>Kh l i _
theorem Ig{vals':Nat->Value}:∀ (l:List Nat) (a:Act),(∀ i∈l,vals i=vals' i)->Xc ops vals l a=Xc ops vals' l a
 | [],_,_=>rfl
 | j::l,a,h=>by
  rw[Xc,Xc,h j (by simp)];exact Ig l _ (λi hi=>h i (by simp[hi]))
theorem Zcy(a:Act){d:Option Tmp}(v:Value){x:Nat}(h:d≠some x):(a.put d v).tmps[x]?=a.tmps[x]?:=by
 cases d with
 | none=>rfl
 | some d =>
  have:d≠x:=λe=>h (by rw[e])
  simp[Act.put,Array.getElem?_setIfInBounds_ne this]
theorem Vu{x:Nat}:∀ (l:List Nat) (a:Act),(∀ e∈l,Y1 ops e≠some x)->(Xc ops vals l a).tmps[x]?=a.tmps[x]?
 | [],_,_=>rfl
 | i::l,a,h=>by
  rw[Xc,Vu l _ (λe q=>h e (by simp[q])),Zcy a _ (h i (by simp))]
theorem Pi{x e:Nat}:∀ (l:List Nat) (a:Act),(∀ j∈l,Y1 ops j=some x->j=e)->e∈l->Y1 ops e=some x->x<a.tmps.size->(Xc ops vals l a).tmps[x]?=some (vals e)
 | i::l,a,h,he,hd,hx=>by
  rw[Xc];by_cases hl:e∈l
  ·exact Pi l _ (λj A=>h j (by simp[A])) hl hd (by rw[Zao];exact hx)
  ·have:e=i:=(by simpa [hl] using he);subst this;rw[Vu l _ (λj A q=>hl (h j (by simp[A]) q▸A)),hd];simp[Act.put,hx]
theorem Zdt{a b:Act}{x:Operand}(h:∀ t,x=.tmp t->a.tmps[t]?=b.tmps[t]?):a.eval x=b.eval x:=by
 cases x with
 | tmp t=>simp only[Act.eval,Array.getD_eq_getD_getElem?];rw[h t rfl]
 | _=>rfl
theorem Zds{a b:Act}(o:Oper)(A:∀ cs b,o.op ≠ .select cs b)(h:∀ t∈o.looksAt ops,a.tmps[t]?=b.tmps[t]?):execOp a.eval o=execOp b.eval o :=
 execOp_congr o A λx q=>Zdt λt e=>h t (by
  subst e
  exact List.mem_append_left _ (List.mem_filterMap.2 ⟨.tmp t,by simpa using q,rfl⟩))
theorem Zlt{a b:Act}{d:Option Tmp}{u v:Value}(h:b.put d u=b.put d v)(A:a.tmps.size=b.tmps.size):a.put d u=a.put d v:=by
 cases d with
 | none=>rfl
 | some d =>
  rcases Nat.lt_or_ge d b.tmps.size with q|q
  ·have h1:=congrArg (λc:Act=>c.tmps[d]?) h;simp only[Act.put,Array.getElem?_setIfInBounds_self_of_lt q,Option.some.injEq]at h1;rw[h1]
  ·simp[Act.put,Array.setIfInBounds_eq_of_size_le ((Om:a.tmps.size<=d))]
theorem wp_move{o:Oper}{a b:Act}{w:World}{K:Act->World->Prop}{R:Value->World->Prop}(G:execOp a.eval o=execOp b.eval o)(J:a.tmps.size=b.tmps.size)
  (h:Oper.wp P o b w (λM w'=>∃ v,M=b.put o.dst v/\R v w') (λ_ _ _=>False)) (L:∀ v w',R v w'->K (a.put o.dst v) w'):Oper.wp P o a w K Q:=by
 unfold Oper.wp at *;rw[G];generalize (execOp b.eval o).run P w=r at *
 have key:∀ u w',(∃ v,b.put o.dst u=b.put o.dst v/\R v w')->K (a.put o.dst u) w':=by
  rintro u w' ⟨v,e,I⟩;rw[Zlt e J];exact L v w' I
 cases r with
 | ok n w' =>
  cases n<;>simp only[Oper.upon]at h⊢
  case value u=>exact key u w' h
  case skip=>exact key _ w' h
  case defer d =>
   obtain⟨v,e,_⟩:=h;have:=congrArg Act.defers e;rw[put_defers,put_defers]at this;simp at this
  case enter f args =>
   refine Calls.mono h λe A G=>?_
   cases e with
   | returned u=>exact key u A G
   | panicked c=>exact G.elim
   | outgrown=>obtain⟨_,_,q⟩:=G;exact q.elim
  case row row args=>exact Rows.mono h λu A G=>key u A G
 | halt x w' =>
  cases x<;>simp only[Oper.upon]at h⊢
def Eg(E:World->World->Prop)(P:Program)(ops:Array Oper)(S:World->Prop)(F:Nat->Value->List Value->Nat->Nat->World->Prop)(a:Act)(i:Nat)(D:List Nat):Prop :=
 ∀ q,ops[i]?=some q->∀ (vals:Nat->Value) (W:World),S W->(∀ e∈D,∃ us lo hi,F e (vals e) us lo hi W)->∀ (G:Exit->Act->World->Prop) (K:Act->World->Prop),Shut (∀ v A h,A=(Xc ops vals D a).put q.dst v->E W h->F i v (D.map vals) W.heap.size h.heap.size h->K A h)->Oper.wp P q (Xc ops vals D a) W K G
def Eh(E:World->World->Prop)(P:Program)(ops:Array Oper)(S:World->Prop)(F:Nat->Value->World->Prop)(a:Act)(i:Nat)(D:List Nat):Prop :=
 ∀ h,ops[i]?=some h->∀ (vals:Nat->Value) (W:World),S W->(∀ e∈D,F e (vals e) W)->∀ (G:Exit->Act->World->Prop) (K:Act->World->Prop),Shut (∀ v A q,A=(Xc ops vals D a).put h.dst v->E W q->F i v q->K A q)->Oper.wp P h (Xc ops vals D a) W K G
abbrev Zk2(P:Program)(ops:Array Oper)(S:World->Prop)(F:Nat->Value->World->Prop)(a:Act)(i:Nat)(D:List Nat):Prop:=Eh Zf P ops S F a i D
def Zi7(ops:Array Oper)(sp:List (Nat×List Nat))(p:Nat×List Nat):Bool :=
 p.2.all (λe=>Region.waitsFor .any ops p.1 e&&sp.any (λq=>q.1==e)) &&
 ((match ops[p.1]? with
  | some o=>(o.looksAt ops).all (λx=>sp.all λq=>!(Y1 ops q.1==some x)||p.2.contains q.1)
  | none=>false) &&
 sp.all (λq=>q.1==p.1||Y1 ops p.1==none || !(Y1 ops q.1==Y1 ops p.1)))
def I7(ops:Array Oper)(z:Nat)(h:Array Bool)(sp:List (Nat×List Nat))(t:Nat):Bool :=
 (decide (z<ops.size)&&(Region.noSelect ops&&decide (sp.map (·.1)).Nodup)) &&
 (sp.all (λp=>decide (p.1<z)&&(!h.getD p.1 true&&(Zi7 ops sp p&&(Region.waitsFor .any ops t p.1||sp.any λq=>decide (p.1<q.1)&&Region.waitsFor .any ops q.1 p.1)))) &&
 ((List.range ops.size).all (λi=>h.getD i false||(sp.any (λp=>p.1==i)||(i==t||(List.range ops.size).any λj=>Region.waitsFor .any ops i j&&(!h.getD j false && !sp.any (λp=>p.1==j))))) &&
 (List.range ops.size).all (λi=>match ops[i]? with
  | some o=>(h.getD i false||o.guard.isNone)&&o.after.all (λe=>!Region.binds .any e||decide (e.on<i))
  | none=>false)))
def I6(ops:Array Oper)(z:Nat)(h:Array Bool)(sp:List (Nat×List Nat))(t:Nat):Bool :=
 (decide (z<ops.size)&&(Region.noSelect ops&&decide (sp.map (·.1)).Nodup)) &&
 (sp.all (λp=>decide (p.1<z)&&(!h.getD p.1 true&&(Zi7 ops sp p&&(Region.waitsFor .any ops t p.1||sp.any λq=>decide (p.1<q.1)&&Region.waitsFor .any ops q.1 p.1)))) &&
 ((List.range ops.size).all (λi=>h.getD i false||(sp.any (λp=>p.1==i)||(i==t||(List.range ops.size).any λj=>Region.waitsFor .any ops i j&&(!h.getD j false && !sp.any (λp=>p.1==j))))) &&
 (List.range ops.size).all (λi=>match ops[i]? with
  | some o=>(match o.guard with
   | none=>true
   | some g=>!sp.any (λp=>p.1==i)||sp.all λq=>Y1 ops g.1==none || !(Y1 ops q.1==Y1 ops g.1))&&o.after.all (λe=>!Region.binds .any e||decide (e.on<i))
  | none=>false)))
def Wy(sp:List (Nat×List Nat))(h:Array Bool):Array Bool:=sp.foldl (λl p=>l.setIfInBounds p.1 true) h
theorem Ke:∀ (sp:List (Nat×List Nat)) (l:Array Bool),(Wy sp l).size=l.size
 | [],_=>rfl
 | p::sp,l=>by show (Wy sp _).size=_;rw[Ke sp];simp
theorem J7:∀ (sp:List (Nat×List Nat)) (l:Array Bool) (k:Nat),k<l.size->((Wy sp l).getD k false=true↔(∃ D,(k,D)∈sp)\/l.getD k false=true)
 | [],l,k,_=>by simp[Wy]
 | p::sp,l,k,hk=>by
  have:=J7 sp (l.setIfInBounds p.1 true) k (by simpa using hk);show (Wy sp (l.setIfInBounds p.1 true)).getD k false=true↔_;rw[this];by_cases e:k=p.1
  ·subst e;constructor
   ·intro _;exact .inl ⟨p.2,by simp⟩
   ·intro _;right;rw[Array.getD_eq_getD_getElem?,Array.getElem?_setIfInBounds_self_of_lt hk];rfl
  ·rw[getD_set_ne false (Ne.symm e)];constructor
   ·rintro (⟨D,h⟩|h)
    ·exact .inl ⟨D,by simp[h]⟩
    ·exact .inr h
   ·rintro (⟨D,h⟩|h)
    ·rcases List.mem_cons.1 h with h|h
     ·exact absurd (congrArg Prod.fst h) e
     ·exact .inl ⟨D,h⟩
    ·exact .inr h
theorem Kb{o:Oper}(h:o.guard=none)(y:Nat->Option Bool):Region.wanted o y=true:=by unfold Region.wanted;rw[h]
theorem Ziv{L:Array Bool}(W:L.size=ops.size)(h:∀ i o,ops[i]?=some o->∀ e∈o.after,Region.binds .any e=true->e.on<i) :
  ∀ (n i:Nat),i=n->i<ops.size->L.getD i true=false->Region.ready .any ops L≠[]:=by
 intro n
 induction n using Nat.strongRecOn with
 | _ n ih =>
  rintro i rfl hi U A;have G:i ∉ Region.ready .any ops L:=by rw[A];simp
  have M:ops[i]?=some ops[i]:=Array.getElem?_eq_getElem hi;have:¬ ∀ e∈ops[i].after,Region.binds .any e=true->L.getD e.on false=true:=λq=>G (mem_ready.2 ⟨U,_,M,q⟩)
  have:∃ e∈ops[i].after,Region.binds .any e=true/\L.getD e.on false=false:=by
   apply Classical.byContradiction;intro q;apply this;intro e A K
   cases V:L.getD e.on false with
   | true=>rfl
   | false=>exact absurd ⟨e,A,K,V⟩ q
  obtain⟨e,J,K,hl⟩:=this;have I:=h i _ M e J K;exact ih e.on I e.on rfl Om (getD_in Om hl) A
theorem WZ.flowG{E:World->World->Prop}(cb:∀ W,E W W)(ca:∀ W1 W2 W3,E W1 W2->E W2 W3->E W1 W3){N:Nat}{A:Array Bool}{a:Act}{w:World}(fuel t:Nat)(sp:List (Nat×List Nat))(F:Nat->Value->List Value->Nat->Nat->World->Prop)(az:I6 ops z A sp t=true)(bs:∀ p∈sp,∀ o,ops[p.1]?=some o->Region.wanted o (yielded ops a.tmps)=true)(b5:N=fuel+sp.length)
  (hS:∀ W J,S W->E W J->S J) (hF:∀ i v us lo hi W J,E W J->F i v us lo hi W->F i v us lo hi J) (b8:S w) (bc:∀ p∈sp,Eg E P ops S F a p.1 p.2)
  (bq:∀ (vals:Nat->Value) (lo hi:Nat->Nat) (W:World),E w W->S W->(∀ p∈sp,F p.1 (vals p.1) (p.2.map vals) (lo p.1) (hi p.1) W)->((∀ W J,E W J->W.heap.size<=J.heap.size)->∀ p∈sp,∀ q∈sp,p.1≠q.1->hi p.1<=lo q.1\/hi q.1<=lo p.1)->WZ P ops Q S z fuel (Wy sp A) (Xc ops vals (sp.map (·.1)) a) W) :
  WZ P ops Q S z N A a w:=by
 intro aa;unfold I6 at az;simp only[Bool.and_eq_true,decide_eq_true_eq]at az;obtain⟨⟨hz,ak,ab⟩,U,ao,bm⟩:=az;have ak:=Region.noSelect_spec ak
 have av:∀ i o,ops[i]?=some o->(∀ gj gb,o.guard=some (gj,gb)->(∃ D,(i,D)∈sp)->∀ q∈sp,∀ x,Y1 ops gj=some x->Y1 ops q.1≠some x)/\∀ e∈o.after,Region.binds .any e=true->e.on<i:=by
  intro i o ho;have hi:=(Gs1.1 ho).1;have:=List.all_eq_true.1 bm i (List.mem_range.2 hi);rw[ho]at this;simp only[Bool.and_eq_true]at this;refine⟨λgj gb ar a7 q hq x hx bu=>?_,λe M hb=>?_⟩
  ·have h1:=this.1;rw[ar]at h1;simp only[Bool.or_eq_true,Bool.not_eq_true']at h1;rcases h1 with h1|h1
   ·obtain⟨D,V⟩:=a7;have:=List.any_eq_false.1 h1 _ V;simp at this
   ·have:=List.all_eq_true.1 h1 q hq;rw[hx,bu]at this;simp at this
  ·have h2:=Array.all_eq_true'.1 this.2 e M;rw[hb]at h2;simpa using h2
 have ao:∀ i,i<ops.size->A.getD i false=false->(∃ D,(i,D)∈sp)\/i=t\/∃ j,j<ops.size/\Region.waitsFor .any ops i j=true/\A.getD j false=false/\¬ ∃ D,(j,D)∈sp:=by
  intro i hi hl;have:=List.all_eq_true.1 ao i (List.mem_range.2 hi);rw[hl,Bool.false_or,Bool.or_eq_true,Bool.or_eq_true]at this;rcases this with h|h|h
  ·obtain⟨p,hp,e⟩:=List.any_eq_true.1 h;obtain rfl:p.1=i:=by simpa using e
   exact .inl ⟨p.2,hp⟩
  ·exact .inr (.inl (by simpa using h))
  ·obtain⟨j,hj,e⟩:=List.any_eq_true.1 h;simp only[Bool.and_eq_true,Bool.not_eq_true']at e;refine .inr (.inr ⟨j,List.mem_range.1 hj,e.1,e.2.1,?_⟩);rintro⟨D,V⟩;have:=List.any_eq_false.1 e.2.2 _ V;simp at this
 have U:∀ p∈sp,p.1<z/\A.getD p.1 true=false/\Zi7 ops sp p=true/\(Region.waitsFor .any ops t p.1=true\/∃ q∈sp,p.1<q.1/\Region.waitsFor .any ops q.1 p.1=true):=by
  intro p hp;have:=List.all_eq_true.1 U p hp;simpa only [Bool.and_eq_true,decide_eq_true_eq,Bool.not_eq_true',Bool.or_eq_true,List.any_eq_true] using this
 have af:∀ p∈sp,∀ q∈sp,∀ x,Y1 ops p.1=some x->Y1 ops q.1=some x->q.1=p.1:=by
  intro p hp q hq x h1 h2;have:=(U p hp).2.2.1;unfold Zi7 at this;simp only[Bool.and_eq_true,List.all_eq_true]at this;have:=this.2.2 q hq;rw[h1,h2]at this;simpa using this
 have be:∀ (n:Nat) (L:Array Bool) (vals:Nat->Value) (lo hi:Nat->Nat) (done:List Nat) (W:World),HeadInv .any ops z L->S W->E w W->(∀ i,A.getD i false=true->L.getD i false=true) ->
   (∀ i,i∈done↔(∃ D,(i,D)∈sp)/\L.getD i false=true)->(∀ i,L.getD i false=true->A.getD i false=false->i∈done)->(∀ p∈sp,p.1∈done->F p.1 (vals p.1) (p.2.map vals) (lo p.1) (hi p.1) W/\∀ e∈p.2,e∈done)->((∀ W J,E W J->W.heap.size<=J.heap.size)->(∀ i∈done,hi i<=W.heap.size)/\∀ i∈done,∀ j∈done,i≠j->hi i<=lo j\/hi j<=lo i) ->
   (sp.filter (λp=>!L.getD p.1 false)).length=n->La P ops Q S z (fuel+n) L (Xc ops vals done a) W:=by
  intro n
  induction n with
  | zero =>
   intro L vals lo hi done W au aq hx Y G ae ag a6 hn
   have I:∀ p∈sp,L.getD p.1 false=true:=by
    intro p hp
    cases hq:L.getD p.1 false with
    | true=>rfl
    | false =>
     have:p∈sp.filter (λp=>!L.getD p.1 false):=List.mem_filter.2 ⟨hp,by rw[hq];rfl⟩;rw[List.eq_nil_of_length_eq_zero hn]at this;cases this
   have ap:Xc ops vals done a=Xc ops vals (sp.map (·.1)) a:=by
    have h1:(Xc ops vals done a).tmps=(Xc ops vals (sp.map (·.1)) a).tmps:=by
     apply Array.ext_getElem?;intro x;by_cases hx:∃ p∈sp,Y1 ops p.1=some x
     ·obtain⟨p,hp,hd⟩:=hx;by_cases hs:x<a.tmps.size
      ·rw[Pi done a (λj hj q=>?_) ((G p.1).2 ⟨⟨p.2,hp⟩,I p hp⟩) hd hs,Pi (sp.map (·.1)) a (λj hj q=>?_) (List.mem_map.2 ⟨p,hp,rfl⟩) hd hs]
       ·obtain⟨q',ax,rfl⟩:=List.mem_map.1 hj;exact af p hp q' ax x hd q
       ·obtain⟨D,V⟩:=((G j).1 hj).1;exact af p hp _ V x hd q
      ·rw[Array.getElem?_eq_none (by rw[Up];omega),Array.getElem?_eq_none (by rw[Up];omega)]
     ·rw[Vu done a (λe M q=>?_),Vu (sp.map (·.1)) a (λe M q=>?_)]
      ·obtain⟨q',ax,rfl⟩:=List.mem_map.1 M;exact hx ⟨q',ax,q⟩
      ·obtain⟨D,V⟩:=((G e).1 M).1;exact hx ⟨_,V,q⟩
    have h2:(Xc ops vals done a).defers=(Xc ops vals (sp.map (·.1)) a).defers:=(by rw[Pj,Pj]);generalize Xc ops vals done a=x at h1 h2⊢;generalize Xc ops vals (sp.map (·.1)) a=y at h1 h2⊢;cases x;cases y;simp only at h1 h2;subst h1 h2;rfl
   have hL:L=Wy sp A:=by
    have ce:=au.size;have cd:=aa.size;apply Array.ext
    ·rw[Ke];omega
    ·intro k h1 h2;have e1:L[k]=L.getD k false:=(by simp[h1]);have e2:(Wy sp A)[k]=(Wy sp A).getD k false:=(by simp[h2]);rw[e1,e2,Bool.eq_iff_iff,J7 sp A k Om];constructor
     ·intro h
      cases hl:A.getD k false with
      | true=>exact .inr rfl
      | false=>exact .inl ((G k).1 (ae k h hl)).1
     ·rintro (⟨D,V⟩|h)
      ·exact I _ V
      ·exact Y k h
   rw[ap,hL];exact bq vals lo hi W hx aq (λp hp=>(ag p hp ((G p.1).2 ⟨⟨p.2,hp⟩,I p hp⟩)).1) (λhs p hp q hq=>(a6 hs).2 p.1 ((G p.1).2 ⟨⟨p.2,hp⟩,I p hp⟩) q.1 ((G q.1).2 ⟨⟨q.2,hq⟩,I q hq⟩)) (hL▸au)
  | succ n ih =>
   intro L vals lo hi done W aa aq hx Y G ae ag a6 hn;refine⟨λq=>absurd q (Ziv aa.size (λi o ho=>(av i o ho).2) z z rfl hz (aa.tail z (Nl _) hz)),λi bk=>?_⟩;obtain⟨hu,oi,X,bn⟩:=mem_ready.1 bk;have b4:=(Gs1.1 X).1;have aj:=getD_both hu
   have bz:A.getD i false=false:=by
    cases hl:A.getD i false with
    | false=>rfl
    | true=>rw[Y i hl]at aj;cases aj
   have ac:∀ j,Region.waitsFor .any ops i j=true->L.getD j false=true:=by
    intro j h;obtain⟨o',a1,e',a8,hb,ay⟩:=Region.waitsFor_spec h;have:o'=oi:=Option.some.inj (a1.symm.trans X);subst this;have:=bn e' a8 hb;rwa[ay]at this
   have a7:∃ D,(i,D)∈sp:=by
    rcases ao i b4 bz with h|h|⟨j,hj,h1,h2,h3⟩
    ·exact h
    ·exfalso;subst h;have:0<(sp.filter (λp=>!L.getD p.1 false)).length:=Om;obtain⟨p,hp⟩:=List.exists_mem_of_length_pos this;obtain⟨bw,bv⟩:=List.mem_filter.1 hp
     have bo:∀ (m:Nat) (p:Nat×List Nat),z-p.1=m->p∈sp->L.getD p.1 false=false->False:=by
      intro m
      induction m using Nat.strongRecOn with
      | _ m ihm =>
       intro p hm hp hl;have cg:=(U p hp).1;rcases (U p hp).2.2.2 with h|⟨q,hq,h1,h2⟩
       ·rw[ac _ h]at hl;cases hl
       ·have cf:=(U q hq).1;refine ihm (z-q.1) Om q rfl hq ?_
        cases bx:L.getD q.1 false with
        | false=>rfl
        | true =>
         obtain⟨o',a1,e',a8,hb,ay⟩:=Region.waitsFor_spec h2;have:=aa.closed q.1 o' a1 bx e' a8 hb;rw[ay,hl]at this;cases this
     exact bo _ p rfl bw (by simpa using bv)
    ·exfalso;have:=ae j (ac j h1) h2;exact h3 ((G j).1 this).1
   obtain⟨D,V⟩:=a7;have b3:i<z:=(U _ V).1;have am:=(U _ V).2.2.1;unfold Zi7 at am;simp only[Bool.and_eq_true,List.all_eq_true,List.any_eq_true,X]at am;obtain⟨b2,b1,_⟩:=am
   have ah:∀ e∈D,e∈done/\∃ D',(e,D')∈sp:=by
    intro e M;obtain⟨h1,q,hq,h2⟩:=b2 e M;obtain rfl:q.1=e:=by simpa using h2
    exact⟨(G q.1).2 ⟨⟨q.2,hq⟩,ac _ h1⟩,q.2,hq⟩
   have b7:∀ t∈oi.looksAt ops,(Xc ops vals done a).tmps[t]?=(Xc ops vals D a).tmps[t]?:=by
    intro t ht;by_cases hx:∃ p∈sp,Y1 ops p.1=some t
    ·obtain⟨p,hp,hd⟩:=hx
     have bh:p.1∈D:=by
      have:=b1 t ht p hp;rw[hd]at this;simpa using this
     by_cases hs:t<a.tmps.size
     ·rw[Pi done a (λj hj q=>?_) (ah _ bh).1 hd hs,Pi D a (λj hj q=>?_) bh hd hs]
      ·obtain⟨D',Z⟩:=(ah j hj).2;exact af p hp _ Z t hd q
      ·obtain⟨D',Z⟩:=((G j).1 hj).1;exact af p hp _ Z t hd q
     ·rw[Array.getElem?_eq_none (by rw[Up];exact Nat.le_of_not_lt hs),Array.getElem?_eq_none (by rw[Up];exact Nat.le_of_not_lt hs)]
    ·rw[Vu done a (λe M q=>?_),Vu D a (λe M q=>?_)]
     ·obtain⟨D',Z⟩:=(ah e M).2;exact hx ⟨_,Z,q⟩
     ·obtain⟨D',Z⟩:=((G e).1 M).1;exact hx ⟨_,Z,q⟩
   have bt:Region.wanted oi (yielded ops (Xc ops vals done a).tmps)=true:=by
    have h0:=bs _ V oi X;unfold Region.wanted at h0⊢
    cases ar:oi.guard with
    | none=>rfl
    | some g =>
     rw[ar]at h0
     have e:yielded ops (Xc ops vals done a).tmps g.1=yielded ops a.tmps g.1:=by
      unfold yielded;rw[show (ops[g.1]?).bind (·.dst)=Y1 ops g.1 from rfl]
      cases b6:Y1 ops g.1 with
      | none=>rfl
      | some x =>
       have h1:(Xc ops vals done a).tmps[x]?=a.tmps[x]?:=Vu done a (λe M=>by
        obtain⟨D',Z⟩:=((G e).1 M).1
        exact (av i oi X).1 g.1 g.2 ar ⟨D,V⟩ _ Z x b6)
       simp only[Option.bind_some,h1]
     obtain⟨gj,gb⟩:=g;simp only at h0 e⊢;rw[e];exact h0
   unfold wpOp;simp only[X,bt,if_true];left
   refine wp_move (b:=Xc ops vals D a) (R:=λv J=>E W J/\F i v (D.map vals) W.heap.size J.heap.size J) (Zds oi (λcs b=>ak i oi cs b X) b7) (by rw[Up,Up])
    (bc _ V oi X vals W aq (λe M=>?_) _ _ (λv a' J e1 e2 e3=>⟨v,e1,e2,e3⟩)) ?_
   ·obtain⟨h1,D',h2⟩:=ah e M;exact⟨_,_,_,(ag _ h2 h1).1⟩
   ·rintro v J ⟨ai,b9⟩;refine⟨λ_=>hS W J aq ai,?_⟩
    have bb:i ∉ done:=λq=>by
     have:=((G i).1 q).2;rw[aj]at this;cases this
    have ap:(Xc ops vals done a).put oi.dst v=Xc ops (λk=>if k=i then v else vals k) (done++[i]) a:=by
     have hc:=Ig (ops:=ops) (vals:=vals) (vals':=λk=>if k=i then v else vals k) done a (λk hk=>by
      have b0:k≠i:=λe=>bb (e▸hk)
      show vals k=if k=i then v else vals k
      rw[if_neg b0])
     rw[Kh,if_pos rfl,hc];unfold Y1;rw[X];rfl
    rw[ap]
    have ad:∀ k,(L.setIfInBounds i true).getD k false=true↔k=i\/L.getD k false=true:=by
     intro k;by_cases hk:k=i
     ·subst hk;rw[Array.getD_eq_getD_getElem?,Array.getElem?_setIfInBounds_self_of_lt (by rw[aa.size];omega)];simp
     ·rw[getD_set_ne false (Ne.symm hk)];simp[hk]
    refine ih _ (λk=>if k=i then v else vals k) (λk=>if k=i then W.heap.size else lo k) (λk=>if k=i then J.heap.size else hi k) _ J (aa.set bk b3) (hS W J aq ai) (ca _ _ _ hx ai) (λk hk=>(ad k).2 (.inr (Y k hk))) (λk=>?_) (λk hk hl=>?_) (λp hp al=>?_) (λhs=>?_) ?_
    ·rw[List.mem_append,List.mem_singleton,ad k,G k];constructor
     ·rintro (⟨h1,h2⟩|rfl)
      ·exact⟨h1,.inr h2⟩
      ·exact⟨⟨D,V⟩,.inl rfl⟩
     ·rintro⟨h1,rfl|h2⟩
      ·exact .inr rfl
      ·exact .inl ⟨h1,h2⟩
    ·rcases (ad k).1 hk with rfl|q
     ·simp
     ·exact List.mem_append_left _ (ae k q hl)
    ·have aw:∀ l:List Nat,(∀ e∈l,e∈done)->l.map (λk=>if k=i then v else vals k)=l.map vals:=λl hl=>List.map_congr_left λe M=>by
      have K:e≠i:=λq=>bb (by rw[<- q];exact hl e M)
      show (if e=i then v else vals e)=vals e;rw[if_neg K]
     show F p.1 (if p.1=i then v else vals p.1) (p.2.map λk=>if k=i then v else vals k) (if p.1=i then W.heap.size else lo p.1) (if p.1=i then J.heap.size else hi p.1) J/\_;by_cases e:p.1=i
     ·obtain⟨p1,p2⟩:=p;simp only at e;subst e
      have e2:p2=D:=by
       have h1:=List.pairwise_map.1 ab;rcases List.pairwise_iff_getElem.1 h1 with h1
       obtain⟨x,bg,ex⟩:=List.getElem_of_mem hp;obtain⟨y,bf,ey⟩:=List.getElem_of_mem V;rcases Nat.lt_trichotomy x y with q|q|q
       ·exact absurd (by rw[ex,ey]) (h1 x y bg bf q)
       ·subst q;rw[ex]at ey;exact congrArg Prod.snd ey
       ·exact absurd (by rw[ex,ey]) (h1 y x bf bg q)
      subst e2;rw[if_pos rfl,if_pos rfl,if_pos rfl,aw p2 (λe M=>(ah e M).1)];exact⟨b9,λe M=>List.mem_append_left _ (ah e M).1⟩
     ·have al:p.1∈done:=by
       rcases List.mem_append.1 al with q|q
       ·exact q
       ·exact absurd (List.mem_singleton.1 q) e
      rw[if_neg e,if_neg e,if_neg e,aw p.2 (ag p hp al).2];exact⟨hF _ _ _ _ _ W J ai (ag p hp al).1,λe M=>List.mem_append_left _ ((ag p hp al).2 e M)⟩
    ·have hm:=hs W J ai;obtain⟨k1,k2⟩:=a6 hs;have K:∀ j∈done,j≠i:=λj hj q=>bb (q▸hj)
     refine⟨λj hj=>?_,λj hj k hk bj=>?_⟩
     ·show (if j=i then J.heap.size else hi j)<=_;rcases List.mem_append.1 hj with q|q
      ·rw[if_neg (K j q)];exact Nt (k1 j q) hm
      ·rw[if_pos (List.mem_singleton.1 q)];exact Nl _
     ·show (if j=i then J.heap.size else hi j)<=(if k=i then W.heap.size else lo k)\/(if k=i then J.heap.size else hi k)<=(if j=i then W.heap.size else lo j);rcases List.mem_append.1 hj with q|q<;>rcases List.mem_append.1 hk with r|r
      ·rw[if_neg (K j q),if_neg (K k r),if_neg (K j q),if_neg (K k r)];exact k2 j q k r bj
      ·rw[if_neg (K j q),if_pos (List.mem_singleton.1 r)];exact .inl (k1 j q)
      ·right;rw[if_neg (K k r),if_pos (List.mem_singleton.1 q)];exact k1 k r
      ·exact absurd ((List.mem_singleton.1 q).trans (List.mem_singleton.1 r).symm) bj
    ·have bi:∀ (l:List (Nat×List Nat)) (n:Nat),(l.map (·.1)).Nodup->(i,D)∈l->(l.filter (λp=>!L.getD p.1 false)).length=n+1->(l.filter (λp=>!(L.setIfInBounds i true).getD p.1 false)).length=n:=by
      have bd:∀ l:List (Nat×List Nat),i ∉ l.map (·.1)->l.filter (λp=>!(L.setIfInBounds i true).getD p.1 false)=l.filter (λp=>!L.getD p.1 false):=by
       intro l hl;apply List.filter_congr;intro p hp;rw[getD_set_ne false (λe=>hl (List.mem_map.2 ⟨p,hp,e.symm⟩))]
      clear ih hn;intro l
      induction l with
      | nil=>intro n _ h;cases h
      | cons p l ihl =>
       intro n ab hm hc;rw[List.map_cons,List.nodup_cons]at ab;rcases List.mem_cons.1 hm with e|hm
       ·subst e;have h1:(L.setIfInBounds i true).getD i false=true:=(ad i).2 (.inl rfl);rw[List.filter_cons,show (!(L.setIfInBounds i true).getD i false)=false by rw[h1];rfl,if_neg (by simp),bd l ab.1];rw[List.filter_cons,show (!L.getD i false)=true by rw[aj];rfl,if_pos rfl,List.length_cons]at hc;omega
       ·have K:p.1≠i:=λe=>ab.1 (e▸List.mem_map.2 ⟨_,hm,rfl⟩)
        rw[List.filter_cons,getD_set_ne false (Ne.symm K)];rw[List.filter_cons]at hc
        cases hq:(!L.getD p.1 false) with
        | true =>
         rw[hq,if_pos rfl,List.length_cons]at hc;rw[if_pos rfl,List.length_cons];have cc:0<(l.filter (λp=>!L.getD p.1 false)).length:=List.length_pos_of_mem (List.mem_filter.2 ⟨hm,by show (!L.getD i false)=true;rw[aj];rfl⟩);obtain⟨m,rfl⟩:∃ m,n=m+1:=⟨n-1,Om⟩;have:=ihl m ab.2 hm Om;omega
        | false =>
         rw[hq,if_neg (by simp)]at hc;rw[if_neg (by simp)];exact ihl n ab.2 hm hc
     exact bi sp n ab V hn
 subst b5
 have bl:(sp.filter (λp=>!A.getD p.1 false)).length=sp.length:=by
  rw[List.filter_eq_self.2 (λp hp=>by rw[getD_both (U p hp).2.1];rfl)]
 refine be sp.length A (λ_=>undef) (λ_=>0) (λ_=>0) [] w aa b8 (cb w) (λ_ h=>h) (λi=>?_) (λi h1 h2=>?_) (λp _ h=>nomatch h) (λ_=>⟨λ_ h=>(nomatch h),λ_ h=>(nomatch h)⟩) bl
 ·constructor
  ·intro h;cases h
  ·rintro⟨⟨D,V⟩,h⟩;rw[getD_both (U _ V).2.1]at h;cases h
 ·rw[h1]at h2;cases h2
theorem Ly{q:Array Bool}{sp:List (Nat×List Nat)}{t:Nat}(h:I7 ops z q sp t=true):I6 ops z q sp t=true/\∀ p∈sp,∀ o,ops[p.1]?=some o->o.guard=none:=by
 unfold I7 at h;unfold I6;obtain⟨h1,h⟩:=Bool.and_eq_true_iff.1 h;obtain⟨h2,h⟩:=Bool.and_eq_true_iff.1 h;obtain⟨h3,h4⟩:=Bool.and_eq_true_iff.1 h;have I:=List.all_eq_true.1 h2
 have J:∀ p∈sp,∀ o,ops[p.1]?=some o->o.guard=none:=by
  intro p hp o A;have hi:=(Gs1.1 A).1;have:=List.all_eq_true.1 h4 p.1 (List.mem_range.2 hi);rw[A]at this;simp only[Bool.and_eq_true,Bool.or_eq_true,Option.isNone_iff_eq_none]at this;refine this.1.resolve_left (λhl=>?_);have K:=I p hp;simp only[Bool.and_eq_true,Bool.not_eq_true']at K;rw[getD_both K.2.1]at hl;cases hl
 refine⟨?_,J⟩;rw[h1,h2,h3,Bool.true_and,Bool.true_and,Bool.true_and,List.all_eq_true];intro i hi;have:=List.all_eq_true.1 h4 i hi
 cases A:ops[i]? with
 | none=>rw[A]at this;exact this
 | some o =>
  rw[A]at this;simp only[Bool.and_eq_true]at this⊢;refine⟨?_,this.2⟩
  cases G:o.guard with
  | none=>rfl
  | some g =>
   simp only[Bool.or_eq_true,Bool.not_eq_true'];left;rw[List.any_eq_false];intro p hp L;obtain rfl:p.1=i:=by simpa using L
   rw[J p hp o A]at G;cases G
theorem WZ.flowI{E:World->World->Prop}(U:∀ W,E W W)(M:∀ Y X V,E Y X->E X V->E Y V){N:Nat}{h:Array Bool}{a:Act}{w:World}(fuel t:Nat)(sp:List (Nat×List Nat))(F:Nat->Value->List Value->Nat->Nat->World->Prop)(I:I7 ops z h sp t=true)(K:N=fuel+sp.length)
  (hS:∀ W A,S W->E W A->S A) (hF:∀ i v us lo hi W A,E W A->F i v us lo hi W->F i v us lo hi A) (L:S w) (G:∀ p∈sp,Eg E P ops S F a p.1 p.2)
  (J:∀ (vals:Nat->Value) (lo hi:Nat->Nat) (W:World),E w W->S W->(∀ p∈sp,F p.1 (vals p.1) (p.2.map vals) (lo p.1) (hi p.1) W)->((∀ W A,E W A->W.heap.size<=A.heap.size)->∀ p∈sp,∀ q∈sp,p.1≠q.1->hi p.1<=lo q.1\/hi q.1<=lo p.1)->WZ P ops Q S z fuel (Wy sp h) (Xc ops vals (sp.map (·.1)) a) W) :
  WZ P ops Q S z N h a w :=
 WZ.flowG U M fuel t sp F (Ly I).1 (λp hp o Z=>Kb ((Ly I).2 p hp o Z) _) K hS hF L G J
theorem WZ.flowE{E:World->World->Prop}(U:∀ W,E W W)(M:∀ Y X V,E Y X->E X V->E Y V){N:Nat}{q:Array Bool}{a:Act}{w:World}(fuel t:Nat)(sp:List (Nat×List Nat))(F:Nat->Value->World->Prop)(J:I7 ops z q sp t=true)(K:N=fuel+sp.length)
  (hS:∀ W A,S W->E W A->S A) (hF:∀ i v W A,E W A->F i v W->F i v A) (L:S w) (G:∀ p∈sp,Eh E P ops S F a p.1 p.2)
  (I:∀ (vals:Nat->Value) (W:World),E w W->S W->(∀ p∈sp,F p.1 (vals p.1) W)->WZ P ops Q S z fuel (Wy sp q) (Xc ops vals (sp.map (·.1)) a) W) :
  WZ P ops Q S z N q a w :=
 WZ.flowI U M fuel t sp (λi v _ _ _ W=>F i v W) J K hS (λi v _ _ _ W A=>hF i v W A) L (λp hp Z ho vals W hs hD=>G p hp Z ho vals W hs (λe he=>by obtain⟨_,_,_,h⟩:=hD e he;exact h)) (λvals _ _ W h1 h2 h3 _=>I vals W h1 h2 h3)
theorem WZ.flow{N:Nat}{h:Array Bool}{a:Act}{w:World}(fuel t:Nat)(sp:List (Nat×List Nat))(F:Nat->Value->World->Prop)(I:I7 ops z h sp t=true)(J:N=fuel+sp.length)
  (L:∀ W G,S W->Zf W G->S G) (hF:∀ i v W G,Zf W G->F i v W->F i v G) (K:S w) (q:∀ p∈sp,Zk2 P ops S F a p.1 p.2)
  (A:∀ (vals:Nat->Value) (W:World),Zf w W->S W->(∀ p∈sp,F p.1 (vals p.1) W)->WZ P ops Q S z fuel (Wy sp h) (Xc ops vals (sp.map (·.1)) a) W) :
  WZ P ops Q S z N h a w :=
 WZ.flowE (λ_=>Fl _) (λ_ _ _ f g=>f.trans g (λ_ _ e=>e)) fuel t sp F I J L hF K q A
def Yg(vals:Nat->Value):List (Nat×Tmp)->Act->Act
 | [],a=>a
 | p::l,a=>Yg vals l (a.put (some p.2) (vals p.1))
theorem N5:∀ (l:List (Nat×Tmp)) (a:Act),(∀ p∈l,Y1 ops p.1=some p.2)->Yg vals l a=Xc ops vals (l.map (·.1)) a
 | [],_,_=>rfl
 | p::l,a,h=>by
  rw[Yg,List.map_cons,Xc,h p (by simp)];exact N5 l _ (λq A=>h q (by simp[A]))
def Ee(P:Program)(ops:Array Oper)(S:World->Prop)(F:Nat->Value->World->Prop)(a:Act)(p:Nat×Tmp×List (Nat×Tmp)):Prop :=
 ∃ q,ops[p.1]?=some q/\∀ (vals:Nat->Value) (W:World),S W->(∀ e∈p.2.2,F e.1 (vals e.1) W)->∀ (G:Exit->Act->World->Prop) (K:Act->World->Prop),Shut (∀ v A h,A=(Yg vals p.2.2 a).put (some p.2.1) v->Zf W h->F p.1 v h->K A h)->Oper.wp P q (Yg vals p.2.2 a) W K G
def I5(ops:Array Oper)(z:Nat)(h:Array Bool)(sp:List (Nat×Tmp×List (Nat×Tmp)))(t:Nat):Bool :=
 I7 ops z h (sp.map λp=>(p.1,p.2.2.map (·.1))) t&&sp.all (λp=>Y1 ops p.1==some p.2.1&&p.2.2.all λe=>Y1 ops e.1==some e.2)
theorem WZ.flowP{N:Nat}{A:Array Bool}{a:Act}{w:World}(fuel t:Nat)(sp:List (Nat×Tmp×List (Nat×Tmp)))(F:Nat->Value->World->Prop)(G:I5 ops z A sp t=true)(aa:N=fuel+sp.length)
  (hS:∀ W J,S W->Zf W J->S J) (hF:∀ i v W J,Zf W J->F i v W->F i v J) (ab:S w) (L:∀ p∈sp,Ee P ops S F a p)
  (V:∀ (vals:Nat->Value) (W:World),Zf w W->S W->(∀ p∈sp,F p.1 (vals p.1) W)->WZ P ops Q S z fuel (Wy (sp.map λp=>(p.1,p.2.2.map (·.1))) A) (Yg vals (sp.map λp=>(p.1,p.2.1)) a) W) :
  WZ P ops Q S z N A a w:=by
 unfold I5 at G;rw[Bool.and_eq_true,List.all_eq_true]at G
 have hd:∀ p∈sp,Y1 ops p.1=some p.2.1/\∀ e∈p.2.2,Y1 ops e.1=some e.2:=by
  intro p hp;have:=G.2 p hp;rw[Bool.and_eq_true,List.all_eq_true]at this;exact⟨by simpa using this.1,λe he=>by simpa using this.2 e he⟩
 refine WZ.flow fuel t (sp.map λp=>(p.1,p.2.2.map (·.1))) F G.1 (by rw[List.length_map];exact aa) hS hF ab (λp hp=>?_) (λvals W Y I hv=>?_)
 ·obtain⟨q,M,rfl⟩:=List.mem_map.1 hp;obtain⟨X,U,h⟩:=L q M;intro oj Z vals W I hD Q' K hK;obtain rfl:X=oj:=Option.some.inj (U.symm.trans Z);have e:=N5 (vals:=vals) q.2.2 a (hd q M).2
  have e2:X.dst=some q.2.1:=by
   have:=(hd q M).1;unfold Y1 at this;rwa[U]at this
  show Oper.wp P X (Xc ops vals (q.2.2.map (·.1)) a) W K Q';rw[<- e];refine h vals W I (λx Y=>hD x.1 (List.mem_map.2 ⟨x,Y,rfl⟩)) Q' K (λv a' J h1 h2 h3=>hK v a' J ?_ h2 h3);show a'=(Xc ops vals (q.2.2.map (·.1)) a).put X.dst v;rw[h1,<- e,e2]
 ·have:=V vals W Y I (λp hp=>hv _ (List.mem_map.2 ⟨p,hp,rfl⟩));rw[N5 (ops:=ops) _ a (λp hp=>by obtain⟨q,M,rfl⟩:=List.mem_map.1 hp;exact (hd q M).1)]at this;rw[List.map_map]at this⊢;exact this
def tab(l:List (Nat×(Value->World->Prop)))(i:Nat):Value->World->Prop:=((l.find? λp=>p.1==i).map (·.2)).getD λ_ _=>True
theorem Zh6{l:List (Nat×(Value->World->Prop))}(h:∀ p∈l,∀ v W q,Zf W q->p.2 v W->p.2 v q):∀ i v W q,Zf W q->tab l i v W->tab l i v q:=by
 intro i v W q f;unfold tab
 cases A:l.find? λp=>p.1==i with
 | none=>exact λh=>h
 | some p=>exact h p (List.mem_of_find?_eq_some A) v W q f
theorem WZ.flowT{N:Nat}{h:Array Bool}{a:Act}{w:World}(fuel t:Nat)(sp:List (Nat×Tmp×List (Nat×Tmp)))(R:List (Nat×(Value->World->Prop)))(I:I5 ops z h sp t=true)(J:N=fuel+sp.length)
  (L:∀ W G,S W->Zf W G->S G) (M:∀ p∈R,∀ v W G,Zf W G->p.2 v W->p.2 v G) (K:S w) (q:∀ p∈sp,Ee P ops S (tab R) a p)
  (A:∀ (vals:Nat->Value) (W:World),Zf w W->S W->(∀ p∈sp,tab R p.1 (vals p.1) W)->WZ P ops Q S z fuel (Wy (sp.map λp=>(p.1,p.2.2.map (·.1))) h) (Yg vals (sp.map λp=>(p.1,p.2.1)) a) W) :
  WZ P ops Q S z N h a w:=WZ.flowP fuel t sp (tab R) I J L (Zh6 M) K q A
def Vk(vals:Nat->Value):List (Nat×Option Tmp)->Act->Act
 | [],a=>a
 | p::l,a=>Vk vals l (a.put p.2 (vals p.1))
theorem Dv:∀ (l:List (Nat×Option Tmp)) (a:Act),(∀ p∈l,Y1 ops p.1=p.2)->Vk vals l a=Xc ops vals (l.map (·.1)) a
 | [],_,_=>rfl
 | p::l,a,h=>by
  rw[Vk,List.map_cons,Xc,h p (by simp)];exact Dv l _ (λq A=>h q (by simp[A]))
def Zht(E:World->World->Prop)(P:Program)(ops:Array Oper)(S:World->Prop)(F:Nat->Value->World->Prop)(a:Act)(p:Nat×Option Tmp×List (Nat×Option Tmp)):Prop :=
 ∃ q,ops[p.1]?=some q/\∀ (vals:Nat->Value) (W:World),S W->(∀ e∈p.2.2,F e.1 (vals e.1) W)->∀ (G:Exit->Act->World->Prop) (K:Act->World->Prop),Shut (∀ v A h,A=(Vk vals p.2.2 a).put p.2.1 v->E W h->F p.1 v h->K A h)->Oper.wp P q (Vk vals p.2.2 a) W K G
def Zj3(ops:Array Oper)(z:Nat)(h:Array Bool)(sp:List (Nat×Option Tmp×List (Nat×Option Tmp)))(t:Nat):Bool :=
 I7 ops z h (sp.map λp=>(p.1,p.2.2.map (·.1))) t&&sp.all (λp=>Y1 ops p.1==p.2.1&&p.2.2.all λe=>Y1 ops e.1==e.2)
theorem Zf8{E:World->World->Prop}{l:List (Nat×(Value->World->Prop))}(h:∀ p∈l,∀ v W q,E W q->p.2 v W->p.2 v q):∀ i v W q,E W q->tab l i v W->tab l i v q:=by
 intro i v W q f;unfold tab
 cases A:l.find? λp=>p.1==i with
 | none=>exact λh=>h
 | some p=>exact h p (List.mem_of_find?_eq_some A) v W q f
theorem WZ.flowO{E:World->World->Prop}(ad:∀ W,E W W)(ac:∀ W1 W2 W3,E W1 W2->E W2 W3->E W1 W3){N:Nat}{A:Array Bool}{a:Act}{w:World}(fuel t:Nat)(sp:List (Nat×Option Tmp×List (Nat×Option Tmp)))(R:List (Nat×(Value->World->Prop)))(G:Zj3 ops z A sp t=true)(aa:N=fuel+sp.length)
  (hS:∀ W J,S W->E W J->S J) (hR:∀ p∈R,∀ v W J,E W J->p.2 v W->p.2 v J) (ab:S w) (L:∀ p∈sp,Zht E P ops S (tab R) a p)
  (V:∀ (vals:Nat->Value) (W:World),E w W->S W->(∀ p∈sp,tab R p.1 (vals p.1) W)->WZ P ops Q S z fuel (Wy (sp.map λp=>(p.1,p.2.2.map (·.1))) A) (Vk vals (sp.map λp=>(p.1,p.2.1)) a) W) :
  WZ P ops Q S z N A a w:=by
 unfold Zj3 at G;rw[Bool.and_eq_true,List.all_eq_true]at G
 have hd:∀ p∈sp,Y1 ops p.1=p.2.1/\∀ e∈p.2.2,Y1 ops e.1=e.2:=by
  intro p hp;have:=G.2 p hp;rw[Bool.and_eq_true,List.all_eq_true]at this;exact⟨by simpa using this.1,λe he=>by simpa using this.2 e he⟩
 refine WZ.flowE ad ac fuel t (sp.map λp=>(p.1,p.2.2.map (·.1))) (tab R) G.1 (by rw[List.length_map];exact aa) hS (Zf8 hR) ab (λp hp=>?_) (λvals W Y I hv=>?_)
 ·obtain⟨q,M,rfl⟩:=List.mem_map.1 hp;obtain⟨X,U,h⟩:=L q M;intro oj Z vals W I hD Q' K hK;obtain rfl:X=oj:=Option.some.inj (U.symm.trans Z);have e:=Dv (vals:=vals) q.2.2 a (hd q M).2
  have e2:X.dst=q.2.1:=by
   have:=(hd q M).1;unfold Y1 at this;rwa[U]at this
  show Oper.wp P X (Xc ops vals (q.2.2.map (·.1)) a) W K Q';rw[<- e];refine h vals W I (λx Y=>hD x.1 (List.mem_map.2 ⟨x,Y,rfl⟩)) Q' K (λv a' J h1 h2 h3=>hK v a' J ?_ h2 h3);show a'=(Xc ops vals (q.2.2.map (·.1)) a).put X.dst v;rw[h1,<- e,e2]
 ·have:=V vals W Y I (λp hp=>hv _ (List.mem_map.2 ⟨p,hp,rfl⟩));rw[Dv (ops:=ops) _ a (λp hp=>by obtain⟨q,M,rfl⟩:=List.mem_map.1 hp;exact (hd q M).1)]at this;rw[List.map_map]at this⊢;exact this
def E3(l:List (Nat×(Value->List Value->Nat->Nat->World->Prop)))(i:Nat):Value->List Value->Nat->Nat->World->Prop:=((l.find? λp=>p.1==i).map (·.2)).getD λ_ _ _ _ _=>True
theorem Zf9{E:World->World->Prop}{l:List (Nat×(Value->List Value->Nat->Nat->World->Prop))}(h:∀ p∈l,∀ v us lo hi W q,E W q->p.2 v us lo hi W->p.2 v us lo hi q):∀ i v us lo hi W q,E W q->E3 l i v us lo hi W->E3 l i v us lo hi q:=by
 intro i v us lo hi W q f;unfold E3
 cases A:l.find? λp=>p.1==i with
 | none=>exact λh=>h
 | some p=>exact h p (List.mem_of_find?_eq_some A) v us lo hi W q f
def Ef(P:Program)(ops:Array Oper)(S:World->Prop)(F:Nat->Value->List Value->Nat->Nat->World->Prop)(a:Act)(p:Nat×Tmp×List (Nat×Tmp)):Prop :=
 ∃ q,ops[p.1]?=some q/\∀ (vals:Nat->Value) (W:World),S W->(∀ e∈p.2.2,∃ us lo hi,F e.1 (vals e.1) us lo hi W)->∀ (G:Exit->Act->World->Prop) (K:Act->World->Prop),Shut (∀ v A h,A=(Yg vals p.2.2 a).put (some p.2.1) v->Zf W h->F p.1 v (p.2.2.map λe=>vals e.1) W.heap.size h.heap.size h->K A h)->Oper.wp P q (Yg vals p.2.2 a) W K G
def Cn(ops:Array Oper)(z:Nat)(h:Array Bool)(sp:List (Nat×Tmp×List (Nat×Tmp)))(t:Nat):Bool :=
 I6 ops z h (sp.map λp=>(p.1,p.2.2.map (·.1))) t&&sp.all (λp=>Y1 ops p.1==some p.2.1&&p.2.2.all λe=>Y1 ops e.1==some e.2)
theorem WZ.flowJG{N:Nat}{A:Array Bool}{a:Act}{w:World}(fuel t:Nat)(sp:List (Nat×Tmp×List (Nat×Tmp)))(R:List (Nat×(Value->List Value->Nat->Nat->World->Prop)))(I:Cn ops z A sp t=true)(Z:∀ p∈sp,∀ o,ops[p.1]?=some o->Region.wanted o (yielded ops a.tmps)=true)(ac:N=fuel+sp.length)
  (hS:∀ W J,S W->Zf W J->S J) (hR:∀ p∈R,∀ v us lo hi W J,Zf W J->p.2 v us lo hi W->p.2 v us lo hi J) (ad:S w) (M:∀ p∈sp,Ef P ops S (E3 R) a p)
  (V:∀ (vals:Nat->Value) (lo hi:Nat->Nat) (W:World),Zf w W->S W->(∀ p∈sp,E3 R p.1 (vals p.1) (p.2.2.map λe=>vals e.1) (lo p.1) (hi p.1) W)->(∀ p∈sp,∀ q∈sp,p.1≠q.1->hi p.1<=lo q.1\/hi q.1<=lo p.1)->WZ P ops Q S z fuel (Wy (sp.map λp=>(p.1,p.2.2.map (·.1))) A) (Yg vals (sp.map λp=>(p.1,p.2.1)) a) W) :
  WZ P ops Q S z N A a w:=by
 unfold Cn at I;rw[Bool.and_eq_true,List.all_eq_true]at I
 have hd:∀ p∈sp,Y1 ops p.1=some p.2.1/\∀ e∈p.2.2,Y1 ops e.1=some e.2:=by
  intro p hp;have:=I.2 p hp;rw[Bool.and_eq_true,List.all_eq_true]at this;exact⟨by simpa using this.1,λe he=>by simpa using this.2 e he⟩
 refine WZ.flowG (λ_=>Fl _) (λ_ _ _ f g=>f.trans g (λ_ _ e=>e)) fuel t (sp.map λp=>(p.1,p.2.2.map (·.1))) (E3 R) I.1 (λp hp=>by
  obtain⟨q,G,rfl⟩:=List.mem_map.1 hp
  exact Z q G) (by rw[List.length_map];exact ac) hS (Zf9 hR) ad (λp hp=>?_) (λvals lo hi W Y L hv ab=>?_)
 ·obtain⟨q,G,rfl⟩:=List.mem_map.1 hp;obtain⟨X,U,h⟩:=M q G;intro oj aa vals W L hD Q' K hK;obtain rfl:X=oj:=Option.some.inj (U.symm.trans aa);have e:=N5 (vals:=vals) q.2.2 a (hd q G).2
  have e2:X.dst=some q.2.1:=by
   have:=(hd q G).1;unfold Y1 at this;rwa[U]at this
  show Oper.wp P X (Xc ops vals (q.2.2.map (·.1)) a) W K Q';rw[<- e];refine h vals W L (λx Y=>hD x.1 (List.mem_map.2 ⟨x,Y,rfl⟩)) Q' K (λv a' J h1 h2 h3=>hK v a' J ?_ h2 (by show E3 R q.1 v ((q.2.2.map (·.1)).map vals) _ _ J;rw[List.map_map];exact h3));show a'=(Xc ops vals (q.2.2.map (·.1)) a).put X.dst v;rw[h1,<- e,e2]
 ·have:=V vals lo hi W Y L (λp hp=>by
   have:=hv _ (List.mem_map.2 ⟨p,hp,rfl⟩);simp only[List.map_map]at this
   exact this) (λp hp q G=>ab (λ_ _ f=>f.size) _ (List.mem_map.2 ⟨p,hp,rfl⟩) _ (List.mem_map.2 ⟨q,G,rfl⟩))
  rw[N5 (ops:=ops) _ a (λp hp=>by obtain⟨q,G,rfl⟩:=List.mem_map.1 hp;exact (hd q G).1)]at this;rw[List.map_map]at this⊢;exact this
theorem WZ.flowJ{N:Nat}{h:Array Bool}{a:Act}{w:World}(fuel t:Nat)(sp:List (Nat×Tmp×List (Nat×Tmp)))(R:List (Nat×(Value->List Value->Nat->Nat->World->Prop)))(A:I5 ops z h sp t=true)(K:N=fuel+sp.length)
  (U:∀ W J,S W->Zf W J->S J) (V:∀ p∈R,∀ v us lo hi W J,Zf W J->p.2 v us lo hi W->p.2 v us lo hi J) (L:S w) (G:∀ p∈sp,Ef P ops S (E3 R) a p)
  (I:∀ (vals:Nat->Value) (lo hi:Nat->Nat) (W:World),Zf w W->S W->(∀ p∈sp,E3 R p.1 (vals p.1) (p.2.2.map λe=>vals e.1) (lo p.1) (hi p.1) W)->(∀ p∈sp,∀ q∈sp,p.1≠q.1->hi p.1<=lo q.1\/hi q.1<=lo p.1)->WZ P ops Q S z fuel (Wy (sp.map λp=>(p.1,p.2.2.map (·.1))) h) (Yg vals (sp.map λp=>(p.1,p.2.1)) a) W) :
  WZ P ops Q S z N h a w:=by
 unfold I5 at A;rw[Bool.and_eq_true]at A;obtain⟨h1,h2⟩:=Ly A.1;refine WZ.flowJG fuel t sp R (by unfold Cn;rw[Bool.and_eq_true];exact⟨h1,A.2⟩) (λp hp o M=>Kb (h2 _ (List.mem_map.2 ⟨p,hp,rfl⟩) o M) _) K U V L G I
end
end
section
open Go.RowKit DT SS TR
abbrev Jf:TypeId:=160
theorem Zmb:P0 Tryz.prog Jf 4 80:=Rq Kr
theorem Zd1(w:World)(cs:List Value)(T:TypeId):∀ j u,cs[j]?=some u->(w.alloc (.cells cs.toArray T)).cell? ((⟨w.heap.size,0,none⟩:Addr).add j)=some u:=λj u h=>by
 rw[Addr.add_lit,Nat.zero_add];exact cell_of (alloc_at w (.cells cs.toArray T)) j u (by simpa using h)
theorem Fb{w:World}{b:Nat}{cs:List Value}{T:TypeId}(h:w.heap[b]?=some (.cells cs.toArray T (0,0))):∀ j u,cs[j]?=some u->w.cell? ((⟨b,0,none⟩:Addr).add j)=some u:=λj u q=>by
 rw[Addr.add_lit,Nat.zero_add];exact cell_of h j u (by simpa using q)
theorem Zai(us:List GRec)(A:Option Addr)(c:Nat)(w:World)(O:Nat->Prop)(h:tRec.At w O A us)(hl:us.length<=1000)(ht:∀ u∈us,u.tokens.length<=2147483647/\u.yomi.length<=2147483647) :
    Calls Tryz.prog 152 #[.slice A us.length c] w λe w'=>∃ v,e=.returned v/\RowK tRec Jf v us w.heap.size w'/\Zf w w':=by
  have mixed:Tryz.prog.follows .mixedOrders=true:=Kr
  obtain⟨n,hn⟩:∃ n,n=us.length:=⟨_,rfl⟩;have HU:=Hd (Ai1 h (Ai1 ht hn));rw[<- hn]at hl⊢;clear h ht hn;go_enter Tryz.func152,Tryz.ntmps152
  go_wp2_with fail
  go_loopg [3,8] n (λg1 v3 v8 wr=>∃ (i:Nat) (u:Value),v3=u/\v8=.int .i64 (i:Int)/\i<=n/\n<=i+g1/\Hid (RowK tRec Jf u (us.take i) w.heap.size wr/\Zf w wr))
  case atStart=>exact⟨0,_,rfl,rfl,Om,Om,RowK.nil _,Fl _⟩
  case round =>
    obtain⟨i,u,rfl,rfl,hi,hg,M⟩:=hrel;by_cases ai:i<n
    · have ar:(i:Int)<(n:Int):=Om
      have ao:(0:Int)<=(i:Int):=Om;have X:i<us.length:=by rw[<- HU.out.2.2];exact ai
      obtain⟨b,o,p,q,rfl,_,au,hp,hq,aa,ae,e0,e1,e2,e3⟩:=Dq HU.out.1 i X;have ad:=HU.out.2.1 _ (List.getElem_mem X);have HT:Hid (us.take (i+1)=us.take i++[us[i]]):=List.take_succ_eq_append_getElem X;have q0:=M.out.2.cell e0 id;have q1:=M.out.2.cell e1 id;have q2:=M.out.2.cell e2 id;have q3:=M.out.2.cell e3 id;have HX:=Hd (Ai1 (strs.ext (strs.mono (O':=λk=>k<w.heap.size) (λk hk _=>hk) hp) M.out.2) (Ai1 (strs.ext (strs.mono (O':=λk=>k<w.heap.size) (λk hk _=>hk) hq) M.out.2) (Ai1 ad (Ai1 aa ae))));obtain⟨Ap,cp,ep,_⟩:=hp;obtain⟨Aq,cq,eq,_⟩:=hq;cases ep;cases eq;have ap:w.heap.size<=wr.heap.size:=M.out.2.size;clear e0 e1 e2 e3 ad aa ae;generalize us[i]=x at *;clear X;have U:=M.out.1.low;go_upto_region 5 with fail
      obtain⟨G,V⟩:∃ W,W=wr.alloc (.cells #[.string x.text,.slice Ap x.tokens.length cp,.slice Aq x.yomi.length cq,.string x.pos] 70):=⟨_,rfl⟩;have X1:Zf wr G:=by rw[V];exact (Fl _).alloc _
      have ag:G.heap[wr.heap.size]?=some (.cells #[.string x.text,.slice Ap x.tokens.length cp,.slice Aq x.yomi.length cq,.string x.pos] 70 (0,0)):=by rw[V];exact alloc_at _ _
      have ac:Hid (∀ W,Fr (λj=>u3.ownBlock=some j) G W->W.cell? ⟨wr.heap.size,0,none⟩=some (.string x.text)/\W.cell? ⟨wr.heap.size,1,none⟩=some (.slice Ap x.tokens.length cp)/\W.cell? ⟨wr.heap.size,2,none⟩=some (.slice Aq x.yomi.length cq)/\W.cell? ⟨wr.heap.size,3,none⟩=some (.string x.pos)):=λW f=>by
        have hb:=f.heap ag (λe=>by have:=U _ e;omega);exact⟨cell_of hb 0 _ rfl,cell_of hb 1 _ rfl,cell_of hb 2 _ rfl,cell_of hb 3 _ rfl⟩
      have HK:=Hd (Ai1 (M.out.1.ext X1) (M.out.2.trans X1 (λ_ _ e=>e)));have L:=Hd (Ai1 (strs.ext HX.out.1 X1) (Ai1 (strs.ext HX.out.2.1 X1) HX.out.2.2));have aa:=X1.size;have HL:=Hd HK.out.1.low;rw[<- V];clear V ag X1 M HX q0 q1 q2 q3 U;refine Ye 14 15 #[false,false,false,false,false,false,false,false,false,false,false,false,false,false,false] (λW=>Fr (λj=>u3.ownBlock=some j) G W/\W.cell? ⟨wr.heap.size,0,none⟩=some (.string x.text)/\W.cell? ⟨wr.heap.size,1,none⟩=some (.slice Ap x.tokens.length cp)/\W.cell? ⟨wr.heap.size,2,none⟩=some (.slice Aq x.yomi.length cq)/\W.cell? ⟨wr.heap.size,3,none⟩=some (.string x.pos)) mixed rfl rfl (⟨(Fl G).drew,ac.out G.drew ((Fl G).drew)⟩) (λhS=>?_);refine WL.go [(0,12),(1,13),(2,14),(3,15),(4,16),(6,18),(7,19),(9,21),(10,22)] ?_;iterate 9 (refine WL.tk (v:=?_) rfl rfl Kr (λ_ _ _ h=>h) (Or.inl ⟨Rf,?_⟩) (by assumption) ?_;rotate_left;(focus (intro w I;(try obtain⟨sf,s0,s1,s2,s3⟩:=I);go_simp;(try with_reducible rfl)));simp only[Act.put,Sa,Sb1,Sc])
      refine WZ.flowT 2 13 [(5,17,[]),(8,20,[]),(11,23,[(5,17),(8,20)]),(12,24,[(11,23)])]
        [(5,λv W=>strs.R W (λj=>G.heap.size<=j) x.tokens [v]),(8,λv W=>strs.R W (λj=>G.heap.size<=j) x.yomi [v]),
         (11,λv W=>∃ p q,v=.agg #[.string x.text,p,q,.string x.pos]/\strs.R W (λj=>G.heap.size<=j) x.tokens [p]/\strs.R W (λj=>G.heap.size<=j) x.yomi [q]),
         (12,λv W=>∃ b p q,v=.slice (some ⟨b,0,none⟩) 1 1/\W.heap[b]?=some (.cells #[.string x.text,p,q,.string x.pos] Jf (0,0))/\strs.R W (λj=>G.heap.size<=j) x.tokens [p]/\strs.R W (λj=>G.heap.size<=j) x.yomi [q])]
        Kr rfl (λW W' h f=>⟨h.1.ext f,ac.out W' (h.1.ext f)⟩) ?_ (by assumption) ?_ (λvals W Z I hv=>?_)
      · simp only[List.forall_mem_cons]
        exact⟨λv W W' f h=>strs.ext h f,λv W W' f h=>strs.ext h f,λv W W' f ⟨p,q,e,h1,h2⟩=>⟨p,q,e,strs.ext h1 f,strs.ext h2 f⟩,λv W W' f ⟨b,p,q,e,h0,h1,h2⟩=>⟨b,p,q,e,f.heap h0 id,strs.ext h1 f,strs.ext h2 f⟩,λ_ h=>nomatch h⟩
      · simp only[List.forall_mem_cons]
        refine⟨⟨_,rfl,λvals W I Y Q' K J=>?_⟩,⟨_,rfl,λvals W I Y Q' K J=>?_⟩,⟨_,rfl,λvals W I Y Q' K J=>?_⟩,⟨_,rfl,λvals W I Y Q' K J=>?_⟩,λ_ h=>nomatch h⟩
        · obtain⟨sf,s0,s1,s2,s3⟩:=I
          simp only[Yg];go_simp;go_wp2_with (go_at_call 101;refine (Qq (strs.keep L.out.1 sf (λk _ ho e=>by have:=HL.out k e;omega)) L.out.2.2.1.1).mono ?_;rintro e w5 ⟨v,rfl,hr,Z⟩)
          exact J.out v _ w5 rfl Z (strs.mono (λ_ _ h=>Nt sf.size h) hr)
        · obtain⟨sf,s0,s1,s2,s3⟩:=I
          simp only[Yg];go_simp;go_wp2_with (go_at_call 101;refine (Qq (strs.keep L.out.2.1 sf (λk _ ho e=>by have:=HL.out k e;omega)) L.out.2.2.1.2).mono ?_;rintro e w5 ⟨v,rfl,hr,Z⟩)
          exact J.out v _ w5 rfl Z (strs.mono (λ_ _ h=>Nt sf.size h) hr)
        · have h5:strs.R W (λj=>G.heap.size<=j) x.tokens [vals 5]:=Y (5,17) (by simp)
          have h8:strs.R W (λj=>G.heap.size<=j) x.yomi [vals 8]:=Y (8,20) (by simp);clear Y;simp only[Yg]at J⊢;generalize vals 5=p at *;generalize vals 8=q at *;obtain⟨Ad,cd,rfl⟩:=Y2 h5;obtain⟨Ae,ce,rfl⟩:=Y2 h8;go_simp;exact J.out _ _ W rfl (Fl _) ⟨_,_,rfl,h5,h8⟩
        · have al:∃ p q,vals 11=.agg #[.string x.text,p,q,.string x.pos]/\strs.R W (λj=>G.heap.size<=j) x.tokens [p]/\strs.R W (λj=>G.heap.size<=j) x.yomi [q]:=Y (11,23) (by simp)
          clear Y;simp only[Yg]at J⊢;generalize vals 11=v at *;obtain⟨p,q,rfl,h5,h8⟩:=al;obtain⟨Ad,cd,rfl⟩:=Y2 h5;obtain⟨Ae,ce,rfl⟩:=Y2 h8;go_simp;exact J.out _ _ _ rfl ((Fl _).alloc _) ⟨_,_,_,rfl,alloc_at _ _,strs.ext h5 ((Fl _).alloc _),strs.ext h8 ((Fl _).alloc _)⟩
      · have ak:∃ b p q,vals 12=.slice (some ⟨b,0,none⟩) 1 1/\W.heap[b]?=some (.cells #[.string x.text,p,q,.string x.pos] Jf (0,0))/\strs.R W (λj=>G.heap.size<=j) x.tokens [p]/\strs.R W (λj=>G.heap.size<=j) x.yomi [q]:=hv (12,24,[(11,23)]) (by simp)
        clear hv;simp only[Yg,List.map_cons,List.map_nil,Act.put,Sa,Sb1,Sc];generalize vals 12=v at *;generalize vals 11=am at *;generalize vals 8=v8 at *;generalize vals 5=v5 at *;obtain⟨nb,p,q,rfl,h0,h5,h8⟩:=ak;have hW:G.heap.size<=W.heap.size:=Z.size;have aq:=(Gs1.1 h0).1;have ah:RowK tRec Jf u3 (us.take i) w.heap.size W:=(HK.out.1.ext ((Fl G).drew)).ext Z;have U:=ah.low;refine WZ.one (i:=13) rfl Kr (by decide) (λK J=>?_);refine RowK.op Rf _ _ 156 Rf x [.string x.text,p,q,.string x.pos] 80 ⟨nb,0,none⟩ Tryz.underlying156 Zmb (by decide) Om Rf Rf ah (by rw[List.length_take];omega) Om (Fb h0) ⟨[.string x.text],_,rfl,⟨rfl,L.out.2.2.2.1⟩,[p],_,rfl,strs.mono (λk _ h=>⟨Om,λe=>by have:=HL.out k e;omega⟩) h5,[q],_,rfl,strs.mono (λk _ h=>⟨Om,λe=>by have:=HL.out k e;omega⟩) h8,rfl,L.out.2.2.2.2⟩ ?_;intro v' w6 aj ab _;refine J.out _ _ (⟨I.1.then ab,ac.out _ (I.1.then ab)⟩) (λaf=>?_);clear J K;try simp only[Act.put,Sa,Sb1,Sc]
        refine WZ.last rfl Kr Kr (λK J=>?_);go_simp;refine J.out _ _ ?_;clear J K;go_wp2_with fail
        go_roundg (n-(i+1))
        case measure=>omega
        case rel=>exact⟨i+1,v',rfl,by go_num,Om,Om,by rw[HT.out];exact aj,((HK.out.2.drew).trans Z (λ_ _ e=>e)).trans ab (λj hj e=>by have:=HL.out j e;omega)⟩
    · obtain rfl:i=n:=Om
      go_wp2_with fail
      first|go_ret|go_ret2
      refine⟨_,rfl,?_,M.out.2⟩;have:=M.out.1;rw[HU.out.2.2,List.take_length]at this;exact this
end
section
open Go.RowKit Go.Sort DT SS TR LT
theorem Zfd{τ:Type}{d:Ty τ}{kv:τ->Value}{k:Nat}(J:d.sz=k+1)(hd:∀ {w O x cs},d.R w O x cs->∃ rest,cs=kv x::rest){w:World}{O:Nat->Prop} :
  ∀ (xs:List τ) (q:List (List Value)) (t:Nat),q.length=xs.length->(∀ i (_:i<xs.length) (_:i<q.length),d.R w O xs[i] q[i])->∃ A:List (El τ k),A.map (·.key)=xs/\A.map (El.enc kv)=q/\∀ i (h:i<A.length),A[i].tag=t+i
 | [],[],_,_,_=>⟨[],rfl,rfl,λi h=>by simp at h⟩
 | x::xs,e::q,t,hl,h=>by
  have I:=h 0 (by simp) (by simp);simp only[List.getElem_cons_zero]at I;obtain⟨rest,rfl⟩:=hd I;have G:=d.len I;obtain⟨A,h1,h2,h3⟩:=Zfd J hd xs q (t+1) (by simpa using hl) (λi hi L=>by have:=h (i+1) (by simpa using hi) (by simpa using L);simpa using this);refine⟨⟨x,rest,by simp at G;omega,λv K=>d.one I v (by simp[K]),t⟩::A,by simp[h1],by simp[h2,El.enc],λi hi=>?_⟩
  cases i with
  | zero=>rfl
  | succ i=>simp only[List.getElem_cons_succ];rw[h3 i (by simpa using hi)];omega
theorem U6{α:Type}(f:α->List Value)(l:List α):l.flatMap f=(l.map f).flatten:=List.flatMap_def
theorem Zgc(us:List GRec)(v:Value)(B:Nat)(w:World)(h:RowK tRec Jf v us B w)(hl:us.length<=1000) :
  Calls Tryz.prog 185 #[v,.func (.func 186) #[] #[]] w λe w'=>e=.returned (.tuple #[])/\RowK tRec Jf v (Z6 Vj us) B w'/\Fr (λj=>v.ownBlock=some j) w w':=by
 obtain⟨X,h0,M,h1⟩:=h;obtain⟨A,L,Z,e3⟩:=Zfd (kv:=Km) (k:=3) rfl (λ{w O x cs} hr=>by obtain⟨p,q,rfl,_⟩:=P4 hr;exact⟨_,rfl⟩) us X 0 h0 h1;have K:A.length=us.length:=by rw[<- L,List.length_map]
 rw[<- Z,<- U6]at M;refine (Zgd B Jf us.length v A w M K Om (λi hi=>by rw[e3 i hi];omega)).mono ?_;rintro e w' ⟨rfl,I,W⟩;have U:(Z6 (λx y:El GRec 3=>Vj x.key y.key) A).map (·.key)=Z6 Vj us:=by rw[<- L];exact Li Vj (·.key) A
 have G:(Z6 Vj us).length=us.length:=(Z0 _ _).length_eq;refine⟨rfl,⟨(Z6 (λx y:El GRec 3=>Vj x.key y.key) A).map (El.enc Km),by rw[<- U,List.length_map,List.length_map],?_,λi hi V=>?_⟩,W⟩
 ·rw[<- U6,G];exact I
 ·have J:i<(Z6 (λx y:El GRec 3=>Vj x.key y.key) A).length:=by rw[List.length_map]at V;exact V
  have hm:=(Z0 (λx y:El GRec 3=>Vj x.key y.key) A).mem_iff.1 (List.getElem_mem J);obtain⟨j,aa,Y⟩:=List.getElem_of_mem hm;have r:=h1 j Om Om
  have k1:us[j]' Om=(Z6 Vj us)[i]:=by
   have a:us[j]' Om=A[j].key:=(by simp[<- L]);have b:(Z6 Vj us)[i]=(Z6 (λx y:El GRec 3=>Vj x.key y.key) A)[i].key:=(by simp[<- U]);rw[a,b,Y]
  have k2:X[j]' Om=((Z6 (λx y:El GRec 3=>Vj x.key y.key) A).map (El.enc Km))[i]:=by
   rw[List.getElem_map,<- Y];simp[<- Z]
  rw[k1,k2]at r;exact tRec.keep r W (λk _ q e=>q.2 e)
abbrev TUC:TypeId:=231
def Zh7:Ty GRec:=.iso (.pair strs (.pair strs .str)) (λu=>(u.tokens,u.yomi,u.pos))
theorem Znp:P0 Tryz.prog TUC 3 64:=Rq Kr
theorem Mp:P0 Tryz.prog 9 1 16:=Rq Kr
def L8(h:Nat)(us:List GRec)(H U:Nat)(w:World):Prop:=(H<=h/\h<U)/\∃ v,w.cell? ⟨h,2,none⟩=some v/\(Ty.slice Zh7).R w (λj=>H<=j/\j<U) us [v]
theorem L8.keep{G H U:Nat}{us:List GRec}{S:Nat->Prop}{w w':World}(h:L8 G us H U w)(f:Fr S w w')(I:∀ b,H<=b->b<U->¬ S b):L8 G us H U w':=by
 obtain⟨A,v,h1,h2⟩:=h;exact⟨A,v,f.cell h1 (I _ A.1 A.2),(Ty.slice Zh7).keep h2 f (λk _ q=>I k q.1 q.2)⟩
theorem RowK.texts{T:TypeId}{v:Value}{xs:List ByteArray}{B:Nat}{w:World}(h:RowK Ty.str T v xs B w):w.ownsRow B T 1 v xs.length (xs.map Value.string):=by
 obtain⟨G,A,q,h1⟩:=h
 have:G.flatten=xs.map Value.string:=by
  have:G=xs.map λx=>[Value.string x]:=by
   apply List.ext_getElem (by rw[A,List.length_map]);intro i a b;rw[List.getElem_map];exact (h1 i (by rw[List.length_map]at b;exact b) a).1
  rw[this,<- U6];clear this A q h1
  induction xs with
  | nil=>rfl
  | cons x l ih=>rw[List.flatMap_cons,ih];rfl
 rw[<- this];exact q
theorem Zez{w:World}{d:Ty ByteArray}{T:TypeId}{n B:Nat}{g:Nat}{cs:Array Value}(hd:d.sz=1)(h:w.heap[g]?=some (.cells cs T (0,0)))(q:cs.size=n)(A:n<=1000000)(hB:B<=g):RowK d T (.slice (some ⟨g,0,none⟩) 0 n) ([]:List ByteArray) B w:=by
 refine⟨[],rfl,⟨by simp,.inr ⟨g,n,cs,rfl,hB,h,Nat.zero_le _,by unfold maxLen;omega,by rw[hd,q];omega,by simp⟩⟩,λi h=>by simp at h⟩
def tV3:Ty (Value×Value×ByteArray) where
 sz:=3
 R:=λ_ _ x cs=>cs=[x.1,x.2.1,.string x.2.2]/\x.1.oneCell'=true/\x.2.1.oneCell'=true
 len:=λh=>by rw[h.1];rfl
 one:=λh u q=>by
  rw[h.1]at q;simp only[List.mem_cons,List.mem_nil_iff,or_false]at q;rcases q with rfl|rfl|rfl
  ·exact h.2.1
  ·exact h.2.2
  ·rfl
 mono:=λ_ h=>h
 move:=λ_ _ h=>h
theorem Zko{ws:List ByteArray}(h:ws.Pairwise (λa b=>Vr a b=true)):Asc ws:=h.imp (λ{a b} q=>Ng _ _ (λz=>by
 have:=bytesLt_swo.trans _ _ _ q ((Xw b a).2 ((Zdw _ _).1 z));rw[bytesLt_swo.irrefl]at this
 cases this))
theorem RowK.keepV{α:Type}{d:Ty α}{T:TypeId}{v:Value}{xs:List α}{B:Nat}{w w':World}{S:Nat->Prop}(h:RowK d T v xs B w)(f:Fr S w w')(G:∀ j,v.ownBlock=some j->¬ S j)(hd:∀ {O x cs},d.R w O x cs->d.R w' O x cs):RowK d T v xs B w':=by
 obtain⟨J,I,q,h1⟩:=h;exact⟨J,I,Zr q f G,λi hi A=>hd (h1 i hi A)⟩
theorem Zif{α β:Type}{d:Ty α}{I:Ty β}{w:World}{O:Nat->Prop}{xs:List α}{q:List β}{v:Value}(h:(Ty.slice d).R w O xs [v])(hl:xs.length=q.length)(K:d.sz=I.sz)(L:∀ i (hi:i<xs.length) (J:i<q.length) cs,d.R w O xs[i] cs->I.R w O q[i] cs):(Ty.slice I).R w O q [v]:=by
 obtain⟨A,c,e,h1,h2,h3,h4⟩:=h;refine⟨A,c,by rw[e,hl],Om,h2,Om,?_⟩;rcases h4 with rfl|⟨b,o,rfl,U,G,M⟩
 ·exact .inl (List.eq_nil_of_length_eq_zero hl.symm)
 ·exact .inr ⟨b,o,rfl,U,G,λi hi=>by
   obtain⟨cs,V,a2⟩:=M i Om
   exact⟨cs,L i Om hi cs V,λj J=>by rw[<- K];exact a2 j J⟩⟩
theorem Zmx{α:Type}{d:Ty α}{w:World}{O:Nat->Prop}{A:Option Addr}{xs:List α}(h:d.At w O A xs):d.At w (λj=>O j/\j<w.heap.size) A xs:=by
 refine⟨h.1,h.2.imp id ?_⟩;rintro⟨b,o,e,J,hl,I⟩
 exact⟨b,o,e,⟨J,hl⟩,hl,λi hi=>by
  obtain⟨cs,h1,h2⟩:=I i hi
  exact⟨cs,d.mono (λk G q=>⟨q,G⟩) h1,h2⟩⟩
theorem Zd0(w:World)(o:Obj)(cs:List Value)(T:TypeId):∀ j u,cs[j]?=some u->((w.alloc o).alloc (.cells cs.toArray T)).cell? ((⟨w.heap.size+1,0,none⟩:Addr).add j)=some u:=λj u h=>by
 have:=Zd1 (w.alloc o) cs T j u h;rw[Za]at this;exact this
theorem Ziu{w:World}{O:Nat->Prop}{A:Option Addr}:∀ {us:List GRec},tRec.At w O A us->∃ G:List (Value×Value×ByteArray),G.length=us.length/\∀ i (hi:i<us.length) (K:i<G.length),strs.R w O us[i].tokens [G[i].1]/\strs.R w O us[i].yomi [G[i].2.1]/\G[i].2.2=us[i].pos/\us[i].text.size<=9223372036854775807/\us[i].pos.size<=9223372036854775807 /\
  ∃ b o,A=some ⟨b,o,none⟩/\b<w.heap.size/\w.cell? ⟨b,o+i*4,none⟩=some (.string us[i].text)/\w.cell? ⟨b,o+i*4+1,none⟩=some G[i].1/\w.cell? ⟨b,o+i*4+2,none⟩=some G[i].2.1/\w.cell? ⟨b,o+i*4+3,none⟩=some (.string us[i].pos):=by
 intro us h
 have I:∀ i:Nat,∃ e:Value×Value×ByteArray,∀ (hi:i<us.length),strs.R w O us[i].tokens [e.1]/\strs.R w O us[i].yomi [e.2.1]/\e.2.2=us[i].pos/\us[i].text.size<=9223372036854775807/\us[i].pos.size<=9223372036854775807 /\
  ∃ b o,A=some ⟨b,o,none⟩/\b<w.heap.size/\w.cell? ⟨b,o+i*4,none⟩=some (.string us[i].text)/\w.cell? ⟨b,o+i*4+1,none⟩=some e.1/\w.cell? ⟨b,o+i*4+2,none⟩=some e.2.1/\w.cell? ⟨b,o+i*4+3,none⟩=some (.string us[i].pos):=by
  intro i;by_cases hi:i<us.length
  ·obtain⟨b,o,p,q,rfl,_,J,h1,h2,h3,h4,W,V,U,M⟩:=Dq h i hi;exact⟨(p,q,us[i].pos),λ_=>⟨h1,h2,rfl,h3,h4,b,o,rfl,J,W,V,U,M⟩⟩
  ·exact⟨(undef,undef,.empty),λq=>absurd q hi⟩
 obtain⟨f,L⟩:=Classical.axiomOfChoice I;refine⟨(List.range us.length).map f,by simp,λi hi K=>?_⟩;have e:((List.range us.length).map f)[i]=f i:=by simp
 rw[e];exact L i hi
def Ii(ss:List GRec):Nat->ByteArray
 | 0=>⟨#[]⟩
 | k+1=>(ss.getD k default).text
theorem Zlv{ss:List GRec}(h:Zd5 ss)(i:Nat)(hi:i<ss.length):((Ii ss i).toList==ss[i].text.toList)=false:=by
 rw[beq_eq_false_iff_ne];intro e;have e:=toList_inj e
 cases i with
 | zero=>exact (Xa (h.plain _ (List.getElem_mem hi))).2.1 e.symm
 | succ k =>
  have q:k<ss.length:=Om
  have:=(List.pairwise_iff_getElem.1 h.asc) k (k+1) (by simpa using q) (by simpa using hi) Om;rw[List.getElem_map,List.getElem_map]at this;replace e:(ss.getD k default).text=ss[k+1].text:=e;rw[List.getD_eq_getElem?_getD,Ge q,Option.getD_some]at e;rw[e,bytesLt_swo.irrefl]at this;cases this
theorem Zaz(us:List GRec)(v:Value)(B:Nat)(w0 w:World)(h:RowK tRec Jf v us B w)(L:Zd5 (Z6 Vj us))(hT:Tbs w0)(hx:Zf w0 w)(hB:w0.heap.size<=B)(ce:B<=w.heap.size) :
  Calls Tryz.prog 153 #[v] w λe w'=>∃ ku,e=.returned (.tuple #[.pointer (some ⟨ku,0,none⟩),.nilIface])/\Ug ku ((Z6 Vj us).map GRec.text) B w'.heap.size w'/\L8 ku (Z6 Vj us) B w'.heap.size w'/\Fr (λj=>v.ownBlock=some j) w w':=by
 have I:(Z6 Vj us).length=us.length:=(Z0 _ _).length_eq;have C1:=Zgc us v B w h (by have:=L.len;omega);have aj:=h.low;obtain⟨A,c,hv⟩:=h.own;obtain⟨ss,az⟩:∃ ss,ss=Z6 Vj us:=⟨_,rfl⟩;rw[<- az]at I L C1⊢;clear h az;obtain⟨n,hn⟩:∃ n,n=us.length:=⟨_,rfl⟩;rw[<- hn]at I hv;have bs:=L.len;have hp:=L.pos;rw[I]at bs hp;have V:=Hd (Ai1 L (Ai1 hT (Ai1 hx (Ai1 hB (Ai1 I aj)))));subst hv;clear L hT hx hB hn aj;obtain⟨is,bu,bo,bn,bm⟩:=info_parts V5
 have b6:∀ W:World,(Instr.makeSlice 34 (.int .i64 0) (.int .i64 (n:Int))).run Tryz.prog W=.ok (.slice (some ⟨W.heap.size,0,none⟩) 0 n) (W.alloc (.cells (madeCells #[.string ⟨#[]⟩] n) 9)):=λW=>by
  have:=run_make (P:=Tryz.prog) W 34 9 is _ Tryz.underlying34 bu bo .i64 .i64 0 n Om Om (by rw[bm];omega) Om;rw[bn]at this;simpa [Value.cells] using this
 go_enter Tryz.func153,Tryz.ntmps153
 go_wp2_with (first|(go_at_call 185;refine C1.mono ?_;rintro e K ⟨rfl,hr,hf⟩;have H1:=Hd (Ai1 hr hf);clear hr hf C1)|fail)
 obtain⟨N,hN⟩:∃ N,N=K.heap.size:=⟨_,rfl⟩;rw[<- hN];have cd:w.heap.size<=N:=by rw[hN];exact H1.out.2.size
 have HS:=H1.out.1.slice;obtain⟨A',c',e,_,_,bd⟩:=HS;simp only[List.cons.injEq,Value.slice.injEq,and_true]at e;obtain⟨rfl,-,rfl⟩:=e;obtain⟨U,Y,ai⟩:=Ziu (Zmx bd);have af:=Hd (Ai1 Y ai);have cf:B<=N:=Om
 have X1:Zf K ((K.alloc (.cells (madeCells #[.string ⟨#[]⟩] n) 9)).alloc (.cells #[.slice none 0 0,.map none,.slice none 0 0] 234)):=((Fl K).alloc _).alloc _;have K1:((K.alloc (.cells (madeCells #[.string ⟨#[]⟩] n) 9)).alloc (.cells #[.slice none 0 0,.map none,.slice none 0 0] 234)).heap[N]?=some (.cells (madeCells #[.string ⟨#[]⟩] n) 9 (0,0)):=((Fe _).alloc _).heap (alloc_at' _ _ hN) id;have K2:((K.alloc (.cells (madeCells #[.string ⟨#[]⟩] n) 9)).alloc (.cells #[.slice none 0 0,.map none,.slice none 0 0] 234)).heap[N+1]?=some (.cells #[.slice none 0 0,.map none,.slice none 0 0] 234 (0,0)):=alloc_at' _ _ (by rw[Za,hN]);have X0:Zf w0 K:=V.out.2.2.1.trans H1.out.2 (λj Z e=>by have:=V.out.2.2.2.2.2 j e;have:=V.out.2.2.2.1;omega);have HX:=Hd (Ai1 X0 hN);have mk:(madeCells #[.string ⟨#[]⟩] n).size=n:=by simp[madeCells]
 go_loopg [4,5,20] n (λg1 v4 v5 v20 wr=>∃ (i:Nat) (u v6:Value),v5=u/\v20=.int .i64 (i:Int)/\i<=n/\n<=i+g1/\v4=.string (Ii ss i)/\Hid (RowK Ty.str 9 u ((ss.take i).map GRec.text) N wr/\RowK tV3 TUC v6 (U.take i) N wr/\wr.heap[N+1]?=some (.cells #[.slice none 0 0,.map none,v6] 234 (0,0))/\(∀ j,u.ownBlock=some j->v6.ownBlock≠some j/\j≠N+1)/\(∀ j,v6.ownBlock=some j->N<=j/\j≠N+1)/\Zf K wr))
 case atStart=>exact⟨0,_,.slice none 0 0,rfl,rfl,Om,Om,rfl,Zez rfl K1 mk Om (Nl _),RowK.nil _,K2,(λj e=>by simp[Value.ownBlock]at e;subst e;exact⟨by simp[Value.ownBlock],Om⟩),(λj e=>by simp[Value.ownBlock]at e),X1⟩
 case round =>
  clear X1 K1 K2 mk X0 hN bd;obtain⟨i,u,v6,rfl,rfl,hi,hg,rfl,G⟩:=hrel;by_cases bq:i<n
  ·have b7:(i:Int)<(n:Int):=Om;have b1:(0:Int)<=(i:Int):=Om;have J:i<ss.length:=Om;obtain⟨aq,ap,a1,ah,ag,b,o,rfl,cc,e0,e1,e2,e3⟩:=af.out.2 i J (by rw[af.out.1];exact J);have q0:=G.out.2.2.2.2.2.cell e0 id;have q1:=G.out.2.2.2.2.2.cell e1 id;have q2:=G.out.2.2.2.2.2.cell e2 id;have q3:=G.out.2.2.2.2.2.cell e3 id;have HM:=List.getElem_mem J;have am:=V.out.1.toks _ HM
   have CT:Hid (∀ W,Zf w0 W->Calls Tryz.prog 187 #[.string ss[i].text] W λe w'=>e=.returned (.string ss[i].text)/\Zf W w'):=λW f=>by
    have:=Zh1 ss[i].text W (by have:=V.out.1.size _ HM;omega) (V.out.2.1.ext f);rw[V.out.1.trim _ HM]at this;exact this
   have b4:((Ii ss i).toList==ss[i].text.toList)=false:=Zlv V.out.1 i J;have bv:i<U.length:=by rw[af.out.1];exact J
   have HT:Hid (ss.take (i+1)=ss.take i++[ss[i]]/\U.take (i+1)=U.take i++[U[i]]/\Ii ss (i+1)=ss[i].text):=⟨List.take_succ_eq_append_getElem J,List.take_succ_eq_append_getElem bv,by show (ss.getD i default).text=_;rw[List.getD_eq_getElem?_getD,Ge J];rfl⟩;have bj:=Hd (Ai1 aq (Ai1 ap (Ai1 ah ag)));obtain⟨Ap,cp,z1⟩:=Y2 aq;obtain⟨Aq,cq,z2⟩:=Y2 ap;rw[z1]at q1;rw[z2]at q2;have ca:((ss[i].tokens.length:Int)==0)=false:=beq_eq_false_iff_ne.2 Om;have b9:((ss[i].tokens.length:Int) != (ss[i].yomi.length:Int))=false:=bne_eq_false_iff_eq.2 Om;clear e0 e1 e2 e3 HM am ah ag Y ai;have HZ:=Hd (Ai1 z1 (Ai1 z2 a1));clear z1 z2 a1 aq ap;generalize bk:ss[i]=x at *;generalize Ii ss i=pv at *;obtain⟨ev,bb⟩:∃ ev,ev=U[i]:=⟨_,rfl⟩;rw[<- bb]at HT bj HZ;obtain⟨A6,c6,e6⟩:=G.out.2.1.own;rw[List.length_take,Nat.min_eq_left Om]at e6;subst e6;have HL:=Hd (Ai1 G.out.1.low G.out.2.1.low);have bl:N+1<wr.heap.size:=(Gs1.1 G.out.2.2.1).1;clear bb bk;obtain⟨rb,ao⟩:∃ rb,rb=wr.heap.size:=⟨_,rfl⟩;go_upto_region 8 with fail
   have ad:=alloc_at wr (.cells #[.string x.text,.slice Ap x.tokens.length cp,.slice Aq x.yomi.length cq,.string x.pos] Jf);have XA:Zf wr (wr.alloc (.cells #[.string x.text,.slice Ap x.tokens.length cp,.slice Aq x.yomi.length cq,.string x.pos] Jf)):=(Fl _).alloc _;rw[<- ao]at ad⊢;have aw:=Hd (Ai1 XA ao);clear XA q0 q1 q2 q3;generalize wr.alloc _=wa at *;have b0:=cell_of ad 0 (.string x.text) rfl;have bx:=Hd ad;have bz:=lt_of_cell b0;clear ad ao
   go_wp2_with (first
    | (go_at_call 187;refine (CT.out _ (HX.out.1.trans (G.out.2.2.2.2.2.trans aw.out.1 (λ_ _ e=>e)) (λ_ _ e=>e))).mono ?_;rintro e w5 ⟨rfl,ak⟩;have bc:=ak.heap bx.out id;have F5:=Hd (Ai1 (aw.out.1.ext ak) bc);have b8:=F5.out.1.size;clear ak bc)
    | (at_builtin;refine RowK.lst (v:=u5) rfl _ _ 34 rfl x.text [.string x.text] 16 ⟨w5.heap.size,0,none⟩ Tryz.underlying34 Mp (by decide) Om rfl rfl (G.out.1.ext (F5.out.1.alloc _)) (by rw[List.length_map,List.length_take];omega) (by simp;omega) (Z2 _ _) ⟨rfl,bj.out.2.2.1⟩ ?_;intro u' X bi ac bf;have ae:=ac.heap (((Fe w5).alloc _).heap F5.out.2 id) (λe=>by have:=(HL.out.1 _ e).2;have:=aw.out.2;omega);have ar:=ac.heap ((F5.out.1.alloc _).heap G.out.2.2.1 id) (λe=>(G.out.2.2.2.1 _ e).2 rfl);have c1:=cell_of ae 1 (.slice Ap x.tokens.length cp) rfl;have c2:=cell_of ae 2 (.slice Aq x.yomi.length cq) rfl;have c3:=cell_of ae 3 (.string x.pos) rfl;have d2:=cell_of ar 2 (.slice A6 i c6) rfl;have lc:rb<X.heap.size:=lt_of_cell c1;have ld:N+1<X.heap.size:=lt_of_cell d2;have H6:=Hd (Ai1 bi (Ai1 (ac.trans (Fl X) (λ_ _ e=>e)) (Ai1 bf ar)));clear bi ac bf ae ar)
    | (at_builtin;refine RowK.lst (v:=.slice A6 i c6) rfl _ _ 232 rfl ev [.slice Ap x.tokens.length cp,.slice Aq x.yomi.length cq,.string x.pos] 64 ⟨X.heap.size+1,0,none⟩ Tryz.underlying232 Znp (by decide) Om rfl rfl ((RowK.keepV (G.out.2.1.ext (F5.out.1.alloc _)) H6.out.2.1 (λj e q=>(G.out.2.2.2.1 j q).1 e) (λh=>h)).ext (((Fl X).alloc _).alloc _)) (by rw[List.length_take];omega) (by simp;omega) (Zd0 _ _ _ _) ⟨by rw[HZ.out.1,HZ.out.2.1,HZ.out.2.2],by rw[HZ.out.1];rfl,by rw[HZ.out.2.1];rfl⟩ ?_;intro v7 w7 av au be;obtain⟨A7,c7,e7⟩:=av.own;rw[List.length_append,List.length_take,Nat.min_eq_left Om]at e7;subst e7;have ab:=au.heap ((((Fe X).alloc _).alloc _).heap H6.out.2.2.2 id) (λe=>(G.out.2.2.2.2.1 _ e).2 rfl);have d7:=cell_of ab 2 (.slice A6 i c6) rfl;have f7:=Zi ab 2;have l7:N+1<w7.heap.size:=lt_of_cell d7;have H7:=Hd (Ai1 av (Ai1 au (Ai1 be ab)));clear av au be ab)
    | fail)
   go_roundg (n-(i+1))
   case measure=>omega
   case rel =>
    refine⟨i+1,u',.slice A7 (i+1) c7,rfl,by go_num,Om,Om,by rw[HT.out.2.2],?_⟩
    have hU:∀ j,u'.ownBlock=some j->(u5.ownBlock=some j/\j<wr.heap.size)\/j=w5.heap.size+1:=λj e=>by
     rcases H6.out.2.2.1 with z|z
     ·rw[z]at e;exact .inl ⟨e,(HL.out.1 j e).2⟩
     ·rw[z,Za]at e;injection e with e;exact .inr e.symm
    have hV:∀ j,(Value.slice A7 (i+1) c7).ownBlock=some j->((Value.slice A6 i c6).ownBlock=some j/\j<wr.heap.size)\/j=X.heap.size+2:=λj e=>by
     rcases H7.out.2.2.1 with z|z
     ·rw[show (Value.slice A7 (i+1) c7).ownBlock=_ from z]at e;exact .inl ⟨e,(HL.out.2 j e).2⟩
     ·rw[show (Value.slice A7 (i+1) c7).ownBlock=_ from z,Za,Za]at e;injection e with e;exact .inr e.symm
    have b3:w5.heap.size+1<=X.heap.size:=by have:=H6.out.2.1.size;rw[Za]at this;exact this
    have F7:Fr (λj=>(Value.slice A6 i c6).ownBlock=some j) X w7:=Fr.trans (S:=λj=>(Value.slice A6 i c6).ownBlock=some j) (((Fl X).alloc _).alloc _) H7.out.2.1 (λ_ _ e=>e);have F8:Fr (λj=>j=N+1) w7 (w7.setCell ⟨N+1,2,none⟩ (.slice A7 (i+1) c7)):=(Fl w7).setCell _ _ (λ_=>rfl)
    have bh:∀ j,u'.ownBlock=some j->j≠N+1:=λj e=>by
     rcases hU j e with ⟨z,_⟩|z
     ·exact (G.out.2.2.2.1 j z).2
     ·omega
    have bg:∀ j,(Value.slice A7 (i+1) c7).ownBlock=some j->N<=j/\j≠N+1:=λj e=>by
     rcases hV j e with ⟨z,_⟩|z
     ·exact G.out.2.2.2.2.1 j z
     ·omega
    refine⟨?_,?_,Yt H7.out.2.2.2 2 _,λj e=>⟨λq=>?_,bh j e⟩,bg,?_⟩
    ·rw[HT.out.1,List.map_append];refine RowK.keepV (RowK.keepV H6.out.1 F7 (λj e q=>?_) (λh=>h)) F8 bh (λh=>h);rcases hU j e with ⟨z,_⟩|z
     ·exact (G.out.2.2.2.1 j z).1 q
     ·have:=(HL.out.2 j q).2;omega
    ·rw[HT.out.2.1];exact RowK.keepV H7.out.1 F8 (λj e=>(bg j e).2) (λh=>h)
    ·rcases hU j e with ⟨z,hz⟩|z<;>rcases hV j q with ⟨y,hy⟩|y
     ·exact (G.out.2.2.2.1 j z).1 y
     ·omega
     ·omega
     ·omega
    ·have bw:N=K.heap.size:=HX.out.2;have E5:Zf K _:=G.out.2.2.2.2.2.trans (F5.out.1.alloc (.cells #[.string x.text] 9)) (λ_ _ e=>e)
     have E6:Zf K X:=E5.trans H6.out.2.1 (λj Z e=>by
      have bt:u5.ownBlock=some j:=e
      have:=(HL.out.1 j bt).1;omega)
     have E7:Zf K w7:=E6.trans F7 (λj Z e=>by have:=(HL.out.2 j e).1;omega);exact E7.trans F8 (λj Z e=>Om)
  ·obtain rfl:i=n:=Om
   have ax:=G.out.1.texts;have am:ss.take i=ss:=by rw[<- I];exact List.take_length
   have ay:U.take i=U:=by rw[<- I,<- Y];exact List.take_length
   rw[am,List.length_map]at ax;obtain⟨A6,c6,e6⟩:=G.out.2.1.own;rw[ay,Y,I]at e6;subst e6;have CI:=Hd (Iy (ss.map GRec.text) u5 ss.length wr (by rw[List.length_map]) (T0 ax (Nat.zero_le _)) (Zko V.out.1.asc) (λx hx=>by obtain⟨u,hu,rfl⟩:=List.mem_map.1 hx;exact (Xa (V.out.1.plain u hu)).2.1) (by rw[List.length_map];omega) (λx hx=>by obtain⟨u,hu,rfl⟩:=List.mem_map.1 hx;exact (Xa (V.out.1.plain u hu)).1) V.out.1.sum);clear ax bq
   go_wp2_with (first
    | (go_at_call 184;refine CI.out.mono ?_;rintro e w2 ⟨al,g,m,mb,rfl,a8,a6,a7⟩;have M:=al.heap G.out.2.2.1 id;have d0:=cell_of M 0 (.slice none 0 0) rfl;have d1:=cell_of M 1 (.map none) rfl;have ch:=Zi M 0;have cg:=Zi M 1;have ld:N+1<w2.heap.size:=lt_of_cell d0;have H2:=Hd (Ai1 al (Ai1 a8 (Ai1 a6 (Ai1 a7 M))));clear al a8 a6 a7 M)
    | fail)
   first|go_ret|go_ret2
   obtain⟨W,hW⟩:∃ W,W=(((w2.setCell ⟨N+1,0,none⟩ (.slice (some ⟨g,0,none⟩) m m)).setCell ⟨N+1,1,none⟩ (.map (some mb))).alloc (.cells #[.slice (some ⟨g,0,none⟩) m m,.map (some mb)] 219)):=⟨_,rfl⟩;have F:Fr (λj=>j=N+1) w2 W:=by rw[hW];exact (((Fr.refl (λj=>j=N+1) w2).setCell ⟨N+1,0,none⟩ _ (λ_=>rfl)).setCell ⟨N+1,1,none⟩ _ (λ_=>rfl)).alloc _
   have aa:W.heap[N+1]?=some (.cells #[.slice (some ⟨g,0,none⟩) m m,.map (some mb),.slice A6 i c6] 234 (0,0)):=by
    rw[hW];exact ((Fe _).alloc _).heap (Yt (Yt H2.out.2.2.2.2 0 _) 1 _) id
   rw[<- hW];have bw:N=K.heap.size:=HX.out.2;have bl:N+1<wr.heap.size:=(Gs1.1 G.out.2.2.1).1;have lW:N+1<W.heap.size:=(Gs1.1 aa).1;have XW:Zf K W:=(G.out.2.2.2.2.2.trans H2.out.1 (λ_ _ e=>e)).trans F (λj Z e=>Om);have cb:=H2.out.2.1;have b5:=H2.out.2.2.1;obtain⟨g1,g2⟩:g<w2.heap.size/\mb<w2.heap.size:=H2.out.2.2.2.1.lt;have b2:=F.size;refine⟨N+1,rfl,⟨g,m,mb,cell_of aa 0 _ rfl,cell_of aa 1 _ rfl,H2.out.2.2.2.1.keep F Om Om,Om,Om,Om⟩,⟨Om,_,cell_of aa 2 _ rfl,?_⟩,?_⟩
   ·have hV:RowK tV3 TUC (.slice A6 i c6) U N W:=by
     have:=RowK.keepV (G.out.2.1.ext H2.out.1) F (λj e=>(G.out.2.2.2.2.1 j e).2) (λh=>h);rw[ay]at this;exact this
    refine Zif ((Ty.slice tV3).mono (λk hk q=>⟨Om,hk⟩) hV.slice) Y rfl (λk hk Z cs hc=>?_);obtain⟨h1,h2,h3,h4,h5,_⟩:=af.out.2 k Z hk;obtain⟨e1,_,_⟩:=hc;refine⟨[U[k].1],[U[k].2.1,.string ss[k].pos],by rw[e1,h3];rfl,?_,[U[k].2.1],[.string ss[k].pos],rfl,?_,⟨rfl,h5⟩⟩
    ·exact strs.mono (λj Z q=>⟨q.1,Z⟩) (strs.ext h1 XW)
    ·exact strs.mono (λj Z q=>⟨q.1,Z⟩) (strs.ext h2 XW)
   ·exact H1.out.2.ext XW
end
section
open Go.RowKit DT SS TR LT
theorem Ug.low{q H A U:Nat}{ks:List ByteArray}{w:World}(h:Ug q ks H U w)(h1:A<=H):Ug q ks A U w:=by
 obtain⟨g,n,G,a,b,c,d,e,f⟩:=h;exact⟨g,n,G,a,b,c,Om,Om,Om⟩
theorem L8.up{A H I U G:Nat}{us:List GRec}{w:World}(h:L8 A us H U w)(h1:I<=H)(h2:U<=G):L8 A us I G w:=by
 obtain⟨a,v,b,c⟩:=h;exact⟨Om,v,b,(Ty.slice Zh7).mono (λk _ q=>⟨Om,Om⟩) c⟩
def tV1:Ty Value where
 sz:=1
 R:=λ_ _ x cs=>cs=[x]/\x.oneCell'=true
 len:=λh=>by rw[h.1];rfl
 one:=λh u q=>by
  rw[h.1]at q;rw[List.mem_singleton.1 q];exact h.2
 mono:=λ_ h=>h
 move:=λ_ _ h=>h
theorem Ze5:P0 Tryz.prog 285 1 8:=Rq Kr
theorem RowK.vals{T:TypeId}{A:Option Addr}{n c:Nat}{xs:List Value}{B:Nat}{w:World}(h:RowK tV1 T (.slice A n c) xs B w):∀ j (_:j<xs.length),∃ b o,A=some ⟨b,o,none⟩/\b<w.heap.size/\w.cell? ⟨b,o+j,none⟩=some xs[j]:=by
 intro j G;obtain⟨K,c',e,_,_,_,q⟩:=h.slice;simp only[List.cons.injEq,Value.slice.injEq,and_true]at e;obtain⟨rfl,-,rfl⟩:=e;rcases q with rfl|⟨b,o,rfl,_,J,I⟩
 ·simp at G
 ·obtain⟨cs,⟨rfl,_⟩,h2⟩:=I j G;have:=h2 0 (by simp);have e:o+j*tV1.sz+0=o+j:=by show o+j*1+0=_;omega
  exact⟨b,o,rfl,J,by rw[<- e];exact this⟩
def Jx(d:Zg):List GRec:=Z6 Vj d.user
abbrev Zba(d:Zg):List ByteArray:=(Jx d).map GRec.text
theorem Fk{us:List GRec}(h:Zd5 us):Y6 (us.map GRec.text) :=
 ⟨Zko h.asc,λx q=>by obtain⟨u,A,rfl⟩:=List.mem_map.1 q;exact h.plain u A,by rw[List.length_map];exact h.len⟩
theorem Zcn(d:Zg)(cs:List Value)(O:Nat->Prop)(om:Bool)(w:World)(h:tDict.R w O d cs)(hT:Tbs w)(hd:Hr d)(hr:Zl d=true)(hu:d.hasUser=true)(V:Zd5 (Jx d))(hf:∀ u∈d.user,u.tokens.length<=2147483647/\u.yomi.length<=2147483647) :
  Calls Tryz.prog 122 #[.agg cs.toArray,.bool om] w λe w'=>∃ tk G H U A,e=.returned (.tuple #[.pointer (some ⟨tk,0,none⟩),.int .i64 0])/\Zfk d (some (A,Zba d)) om tk G H U w'/\L8 A (Jx d) H U w'/\w.heap.size<=H/\Zf w w':=by
 have H:=Hd (Ai1 h hT);obtain⟨A1,c1,A2,c2,A3,c3,A4,c4,A5,c5,A6,c6,A7,c7,A8,c8,rfl,h1,h2,h3,h4,h5,h6,h7,h8,_⟩:=Y4 h;have HA:=Hd h8.2.2;clear h hT h1 h2 h3 h4 h5 h6 h7 h8;rw[hu]at H⊢;have HD:=Hd (Ai1 hd (Ai1 hr (Ai1 hu (Ai1 V hf))));have ap:d.user.length<=1000:=by have:=V.len;unfold Jx at this;rwa[(Z0 _ _).length_eq]at this
 clear hd hr hu V hf;go_enter Tryz.func122,Tryz.ntmps122
 go_upto_region 10 with (first
  | (go_at_call 151;refine (Nj d _ O _ (tDict.ext H.out.1 ((Fl w).alloc _)) (H.out.2.u8.ext ((Fl w).alloc _)) HD.out.1 HD.out.2.1).mono ?_;rintro e w1 ⟨G,U,rfl,L,I⟩;have b9:w1.cell? ⟨w.heap.size,9,none⟩=some (.bool true):=I.cell (Zb (alloc_at _ _) 9 _ rfl) id;have a7:w1.cell? ⟨w.heap.size,10,none⟩=some (.slice A8 d.user.length c8):=I.cell (Zb (alloc_at _ _) 10 _ rfl) id;have ax:w.heap.size<w1.heap.size:=lt_of_cell b9;have HX:=Hd (Ai1 L (Ai1 I (((Fe w).alloc _).then I)));clear L I)
  | (go_at_call 152;refine (Zai d.user A8 c8 w1 O (Ya HA.out HX.out.2.2) ap HD.out.2.2.2.2).mono ?_;rintro e w2 ⟨v,rfl,ad,ac⟩;have H2:=Hd (Ai1 ad ac);clear ad ac)
  | (go_at_call 153;refine (Zaz d.user v w1.heap.size w w2 H2.out.1 HD.out.2.2.2.1 H.out.2 (HX.out.2.2.ext H2.out.2) Om H2.out.2.size).mono ?_;rintro e q ⟨A,rfl,af,ak,ai⟩;have H3:=Hd (Ai1 af (Ai1 ak (H2.out.2.trans ai (λj hj e=>by have:=(H2.out.1.low j e).1;omega))));clear af ak ai)
  | (go_at_call 154;refine (Bt (some ⟨A,0,none⟩) q).mono ?_;rintro e K ⟨rfl,aj,ab⟩;have H4:=Hd (Ai1 aj ab);clear aj ab)
  | (at_builtin;refine RowK.lst (v:=.slice none 0 0) rfl _ _ 280 rfl (.func (.func 188) #[] #[.pointer (some ⟨q.heap.size,0,none⟩)]) [.func (.func 188) #[] #[.pointer (some ⟨q.heap.size,0,none⟩)]] 8 ⟨K.heap.size,0,none⟩ Tryz.underlying280 Ze5 (by decide) Om rfl rfl (RowK.nil (d:=tV1) (B:=K.heap.size) _) (by simp) (by simp) (Z2 _ _) ⟨rfl,rfl⟩ ?_;intro v5 w5 Z ah ar;obtain⟨A9,c9,e9⟩:=Z.own;subst e9;have H5:=Hd (Ai1 Z (Fr.trans (S:=λ_=>False) ((Fl K).alloc _) ah (λj _ e=>by cases e)));clear Z ah ar)
  | fail)
 obtain⟨M,HN⟩:∃ M,M=w.heap.size+1:=⟨_,rfl⟩;have a6:=H2.out.2.size;have a1:=H3.out.2.2.size;have az:q.heap.size<K.heap.size:=lt_of_cell H4.out.1;have ay:=H5.out.2.size;have au:=HX.out.1.lt;have aa:=HX.out.1.keep H3.out.2.2 (λ_ _ _=>id);rw[Za,<- HN]at aa;have W3:Zz d G M q.heap.size q/\Ug A (Zba d) M q.heap.size q/\L8 A (Jx d) M q.heap.size q/\Y6 (Zba d):=⟨aa.up Om (Nl _),Ug.low H3.out.1 Om,L8.up H3.out.2.1 Om (Nl _),Fk HD.out.2.2.2.1⟩;have HW:=Hd (Ai1 W3 (HX.out.2.2.trans H3.out.2.2 (λ_ _ e=>e)));have HC:=Hd (H5.out.2.cell H4.out.1 id)
 have fin:Hid (∀ tk w',w'.heap[tk]?=some (.cells (Y9 G (some ⟨A,0,none⟩) om) 291 (0,0))->Zf q w'->Zfk d (some (A,Zba d)) om tk G M q.heap.size w'/\L8 A (Jx d) M q.heap.size w'/\w.heap.size<=M/\Zf w w'):=λtk w' h f3=>by
  exact⟨⟨h,HW.out.1.1.keep f3 (λ_ _ _=>id),λx e=>by cases e;exact⟨HW.out.1.2.1.keep f3 (λ_ _ _=>id),HW.out.1.2.2.2⟩⟩,HW.out.1.2.2.1.keep f3 (λ_ _ _=>id),Om,HW.out.2.trans f3 (λ_ _ e=>e)⟩
 clear W3 aa au HX;have J:Zf q w5:=H4.out.2.trans H5.out.2 (λ_ _ e=>e);have X:∀ (t:Nat) (W:World),Fr (λj=>K.heap.size<=j) w5 W->w5.heap.size<=t->Zfm (.func (.func 188) #[] #[.pointer (some ⟨q.heap.size,0,none⟩)]) t (Y9 G none false) (Y9 G (some ⟨A,0,none⟩) false) W:=λt W f ht=>Zck t q.heap.size ⟨A,0,none⟩ _ _ _ W (f.cell HC.out (by show ¬ K.heap.size<=q.heap.size;omega)) Om
 cases om with
 | false =>
  have CN:=Hd (Re G 1 c9 A9 [.func (.func 188) #[] #[.pointer (some ⟨q.heap.size,0,none⟩)]] (λj=>if j=0 then Y9 G none false else Y9 G (some ⟨A,0,none⟩) false) w5 rfl Om H5.out.1.vals rfl (λj h=>by
   obtain rfl:j=0:=by simp at h;omega
   exact X _ _ ((Fl w5).alloc _) (Nl _)))
  have ao:=Hd J;clear J
  go_wp2_with (first
   | (go_at_call 156;refine CN.out.mono ?_;rintro e w6 ⟨rfl,L,I⟩;have HY:=Hd (Ai1 L I);clear L I)
   | fail)
  first|go_ret|go_ret2
  exact⟨_,G,_,_,A,rfl,fin.out _ _ HY.out.1 (ao.out.trans HY.out.2 (λ_ _ e=>e))⟩
 | true =>
  go_upto_region 12 with (first
   | (go_at_call 155;refine (Zax _).mono ?_;rintro e w6 ⟨rfl,rfl⟩)
   | (at_builtin;refine RowK.lst (v:=.slice A9 1 c9) rfl _ _ 280 rfl (.func (.func 189) #[] #[]) [.func (.func 189) #[] #[]] 8 ⟨w6.heap.size,0,none⟩ Tryz.underlying280 Ze5 (by decide) Om rfl rfl (RowK.ext H5.out.1 ((Fl _).alloc _)) (by simp) (by simp;omega) (Z2 _ _) ⟨rfl,rfl⟩ ?_;intro v7 w7 Y ag aq;obtain⟨aw,av,e7⟩:=Y.own;subst e7;have H7:=Hd (Ai1 Y (Fr.trans (S:=λj=>(Value.slice A9 1 c9).ownBlock=some j) ((Fl w6).alloc _) ag (λj _ e=>e)));clear Y ag aq)
   | fail)
  have ae:∀ j,(Value.slice A9 1 c9).ownBlock=some j->K.heap.size<=j:=λj e=>(H5.out.1.low j e).1
  have F7:Fr (λj=>K.heap.size<=j) w6 w7:=H7.out.2.mono (λj _ e=>ae j e);have al:Zf q w7:=J.trans F7 (λj hj e=>Om)
  have CN:=Hd (Re G 2 av aw [.func (.func 188) #[] #[.pointer (some ⟨q.heap.size,0,none⟩)],.func (.func 189) #[] #[]] (λj=>if j=0 then Y9 G none false else if j=1 then Y9 G (some ⟨A,0,none⟩) false else Y9 G (some ⟨A,0,none⟩) true) w7 rfl Om H7.out.1.vals rfl (λj h=>by
   have h:j<2:=h
   match j,h with
   | 0,_=>exact X _ _ (F7.alloc _) F7.size
   | 1,_=>exact Zev _ _ _ _ _))
  have am:=Hd al;clear J al F7 ae X
  go_wp2_with (first
   | (go_at_call 156;refine CN.out.mono ?_;rintro e w8 ⟨rfl,L,I⟩;have HY:=Hd (Ai1 L I);clear L I)
   | fail)
  first|go_ret|go_ret2
  exact⟨_,G,_,_,A,rfl,fin.out _ _ HY.out.1 (am.out.trans HY.out.2 (λ_ _ e=>e))⟩
def usX(us:List GRec):XU:=⟨λq H U w=>L8 q us H U w,λh f A=>h.keep f A⟩
def Th(d:Zg):Option (List ByteArray):=if d.hasUser then some (Zba d) else none
def xOf(d:Zg):XU:=if d.hasUser then usX (Jx d) else noX
def C9(d:Zg):Prop:=d.hasUser=true->Zd5 (Jx d)/\∀ u∈d.user,u.tokens.length<=2147483647/\u.yomi.length<=2147483647
theorem Ew{d:Zg}(h:C9 d):∀ ks,Th d=some ks->Y6 ks:=by
 intro ks e;unfold Th at e
 split at e
 ·next hu=>cases e;exact Fk (h hu).1
 ·cases e
theorem Nv(d:Zg)(cs:List Value)(O:Nat->Prop)(w:World)(h:tDict.R w O d cs)(I:Tbs w)(hd:Hr d)(G:Zl d=true)(A:C9 d):Jo d cs (Th d) (xOf d) w:=by
 cases q:d.hasUser with
 | false =>
  unfold Th xOf;rw[q];exact Hs d cs O w h I.u8 hd G q
 | true =>
  obtain⟨h1,h2⟩:=A q;unfold Th xOf;rw[q];intro K W f;refine (Zcn d cs O K W (tDict.ext h f) (I.ext f) hd G q h1 h2).mono ?_;rintro e w' ⟨J,M,H,U,L,a,b,c,V,g⟩;exact⟨J,M,H,U,L,a,b,c,V,g⟩
end
end Go.Proofs.YtlfoalomaofejaaGreatDoor
