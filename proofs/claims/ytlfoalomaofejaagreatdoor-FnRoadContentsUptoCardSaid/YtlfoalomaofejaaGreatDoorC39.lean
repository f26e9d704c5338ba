/- A row that is owned of data of -/
import Derived.Test.YtlfoalomaofejaaGreatDoorC38
import Derived.Test.YtlfoalomaofejaaGreatDoorC32
set_option linter.all false
set_option maxRecDepth 100000
set_option maxHeartbeats 2000000
namespace Go.Proofs.YtlfoalomaofejaaGreatDoor
section
open Go.RowKit DT
def Pq(P:Program)(T:TypeId)(n b:Nat):Prop:=∃ i,P.info? T=some i/\∃ z:Value,i.zero=some z/\i.size=n/\i.bytes=b/\z.cells.size=n
theorem Qg{P:Program}{T:TypeId}{n b:Nat}(h:(P.info? T).map (λi=>(i.zero.map (λz=>z.cells.size),i.size,i.bytes))=some (some n,n,b)):Pq P T n b:=by
 cases hi:P.info? T with
 | none=>rw[hi]at h;cases h
 | some i =>
  rw[hi]at h;simp only[Option.map_some,Option.some.injEq,Prod.mk.injEq]at h;obtain⟨h1,h2,h3⟩:=h
  cases hz:i.zero with
  | none=>rw[hz]at h1;cases h1
  | some z =>
   rw[hz]at h1;exact⟨i,hi,z,hz,h2,h3,by simpa using h1⟩
def RowK{α:Type}(d:Ty α)(T:TypeId)(v:Value)(xs:List α)(B:Nat)(w:World):Prop :=
 ∃ es:List (List Value),es.length=xs.length/\w.ownsRow B T d.sz v xs.length es.flatten/\∀ i (_:i<xs.length) (_:i<es.length),d.R w (λj=>B<=j/\v.ownBlock≠some j) xs[i] es[i]
section
variable{P:Program}{α:Type}{d:Ty α}{T:TypeId}{v:Value}{xs:List α}{B:Nat}{w w':World}
theorem RowK.nil(w:World):RowK d T (.slice none 0 0) ([]:List α) B w:=⟨[],rfl,World.ownsRow_nil _ _ _ _,λi h=>by simp at h⟩
theorem RowK.own(h:RowK d T v xs B w):∃ A c,v=.slice A xs.length c:=by
 obtain⟨_,_,ho,_⟩:=h;exact Zl ho
theorem RowK.low(h:RowK d T v xs B w):∀ j,v.ownBlock=some j->B<=j/\j<w.heap.size:=by
 obtain⟨_,_,ho,_⟩:=h;exact λj e=>⟨Y1 (g:=j) ho e,J4 ho e⟩
theorem RowK.keep{S:Nat->Prop}(h:RowK d T v xs B w)(f:Fr S w w')(hS:∀ j,B<=j->j<w.heap.size->¬ S j):RowK d T v xs B w':=by
 obtain⟨es,h0,ho,h1⟩:=h;exact⟨es,h0,Zs ho f (λj e=>hS j (Y1 (g:=j) ho e) (J4 ho e)),λi hi hj=>d.keep (h1 i hi hj) f (λk hk q=>hS k q.1 hk)⟩
theorem RowK.ext(h:RowK d T v xs B w)(f:Zf w w'):RowK d T v xs B w':=h.keep f (λ_ _ _=>id)
theorem RowK.base{B':Nat}(h:RowK d T v xs B w)(hb:B'<=B):RowK d T v xs B' w:=by
 obtain⟨es,h0,⟨hl,ho⟩,h1⟩:=h;refine⟨es,h0,⟨hl,ho.imp id ?_⟩,λi hi hj=>d.mono (λk _ q=>⟨Nt hb q.1,q.2⟩) (h1 i hi hj)⟩;rintro⟨g,cap,cur,e,hg,r⟩;exact⟨g,cap,cur,e,Nt hb hg,r⟩
theorem Js{m:Nat}:∀ (es:List (List Value)) (i j:Nat) (hi:i<es.length),(∀ e∈es,e.length=m)->j<m->es.flatten[i*m+j]?=es[i][j]?
 | e::es,0,j,_,h,hj=>by
  rw[List.flatten_cons,Nat.zero_mul,Nat.zero_add,List.getElem?_append_left (by rw[h e (by simp)];exact hj)];rfl
 | e::es,i+1,j,hi,h,hj=>by
  have he:=h e (by simp);rw[List.flatten_cons,List.getElem?_append_right (by rw[he,Nat.add_mul];omega),he,show (i+1)*m+j-m=i*m+j by rw[Nat.add_mul];omega];exact Js es i j (by simpa using hi) (λx hx=>h x (by simp[hx])) hj
theorem RowK.slice(h:RowK d T v xs B w):(Ty.slice d).R w (λj=>B<=j) xs [v]:=by
 obtain⟨es,h0,ho,h1⟩:=h
 have hlen:∀ e∈es,e.length=d.sz:=by
  intro e he;obtain⟨i,hi,rfl⟩:=List.getElem_of_mem he;exact d.len (h1 i Om hi)
 rcases id ho.2 with ⟨rfl,hn⟩|⟨g,cap,cur,rfl,hb,hc,h2,h3,h4,h5⟩
 ·have:xs=[]:=List.eq_nil_of_length_eq_zero hn;subst this;exact⟨none,0,rfl,Nl _,λ_=>rfl,by simp,.inl rfl⟩
 ·refine⟨some ⟨g,0,none⟩,cap,rfl,h2,(by intro e;cases e),by unfold maxLen at h3;omega,.inr ⟨g,0,rfl,hb,(Gs1.1 hc).1,λi hi=>⟨es[i]' Om,d.mono (λ_ _ q=>q.1) (h1 i hi Om),λj hj=>?_⟩⟩⟩;have hj':j<d.sz:=by rw[hlen _ (List.getElem_mem ((Om:i<es.length)))]at hj;exact hj
  have e:es.flatten[i*d.sz+j]?=some ((es[i]' Om)[j]):=by rw[Js es i j Om hlen hj'];exact Ge hj
  have:=ho.cells (g:=g) rfl _ _ e;rw[Addr.add_lit,Nat.zero_add]at this;rw[Nat.zero_add];exact this
theorem RowK.snoc{x:α}{cs:List Value}{v':Value}(h:RowK d T v xs B w)(hx:d.R w (λj=>B<=j/\v.ownBlock≠some j) x cs)(hg:w.grownBy w' v.ownBlock)(hat:v'.ownBlock=v.ownBlock\/v'.ownBlock=some w.heap.size)
  (hn:∀ es:List (List Value),es.length=xs.length->w.ownsRow B T d.sz v xs.length es.flatten->w'.ownsRow B T d.sz v' (xs.length+1) (es.flatten++cs)):RowK d T v' (xs++[x]) B w':=by
 obtain⟨es,h0,ho,h1⟩:=h;have F:Fr (λj=>v.ownBlock=some j) w w':=(Fl w).grown hg (λk e _=>e)
 have old:∀ {x:α} {cs:List Value},d.R w (λj=>B<=j/\v.ownBlock≠some j) x cs->d.R w' (λj=>B<=j/\v'.ownBlock≠some j) x cs:=by
  intro x cs hr;refine d.mono (O:=λj=>(B<=j/\v.ownBlock≠some j)/\j<w.heap.size) (λk _ q=>⟨q.1.1,λe=>?_⟩) (d.keep (d.mono (λk hk q=>⟨q,hk⟩) hr) F (λk _ q e=>q.1.2 e));rcases hat with z|z
  ·exact q.1.2 (z▸e)
  ·rw[z]at e;injection e with e;have:=q.2;omega
 refine⟨es++[cs],by simp[h0],?_,λi hi hj=>?_⟩
 ·rw[List.flatten_append,List.flatten_cons,List.flatten_nil,List.append_nil,List.length_append,List.length_singleton];exact hn es h0 ho
 ·rcases Nat.lt_or_ge i xs.length with q|q
  ·have e1:(xs++[x])[i]=xs[i]:=List.getElem_append_left q;have e2:(es++[cs])[i]=es[i]' Om:=List.getElem_append_left Om;rw[e1,e2];exact old (h1 i q Om)
  ·have hi2:i=xs.length:=by rw[List.length_append,List.length_singleton]at hi;omega
   subst hi2;have e1:(xs++[x])[xs.length]=x:=(by simp);have e2:(es++[cs])[xs.length]'(by simp[h0])=cs:=(by simp[<- h0]);rw[e1,e2];exact old hx
theorem RowK.run{x:α}{cs:List Value}{t ty:TypeId}{by0:Nat}{ad:Addr}(h:RowK d T v xs B w)(ht:P.underlying t=some (.slice T))(hi:Pq P T d.sz by0)(hs:0<d.sz)(hby:by0<=10000)(hn:xs.length<=4294967296)(hB:B<=w.heap.size)
  (hc:∀ j u,cs[j]?=some u->w.cell? (ad.add j)=some u) (hx:d.R w (λj=>B<=j/\v.ownBlock≠some j) x cs) :
  ∃ v' w',(Builtin.append_ #[t,t] ty #[v,.slice (some ad) 1 1]).run P w=.ok v' w'/\RowK d T v' (xs++[x]) B w'/\Fr (λj=>v.ownBlock=some j) w w'/\(v'.ownBlock=v.ownBlock\/v'.ownBlock=some w.heap.size):=by
 obtain⟨i,hi,z,hz,hsz,hb,hzs⟩:=hi;obtain⟨es,h0,ho,h1⟩:=h;have hm:xs.length*by0<=4294967296*10000:=Nat.mul_le_mul hn hby;obtain⟨v',w',hr,h2,h3,_,h5⟩:=run_append_own_at (P:=P) w B t ty T i z d.sz by0 ht hi hz hsz hb hzs hs v xs.length es.flatten ho ad 1 1 cs (by rw[d.len hx,Nat.one_mul]) hc (d.one hx) (by unfold maxLen;omega) (by rw[Nat.add_mul];omega) hB;refine⟨v',w',hr,RowK.snoc ⟨es,h0,ho,h1⟩ hx h3 h5 (λes' h0' ho'=>?_),(Fl w).grown h3 (λk e _=>e),h5⟩;obtain⟨v2,w2,hr2,k2,_⟩:=run_append_own_at (P:=P) w B t ty T i z d.sz by0 ht hi hz hsz hb hzs hs v xs.length es'.flatten ho' ad 1 1 cs (by rw[d.len hx,Nat.one_mul]) hc (d.one hx) (by unfold maxLen;omega) (by rw[Nat.add_mul];omega) hB;rw[hr]at hr2;cases hr2;exact k2
theorem RowK.op{ops:Array Oper}{o:Oper}{a:Act}{K:Act->World->Prop}{Q:Exit->Act->World->Prop}{E:Prop}(hg:o.guard=none)(s y:Operand)(t:TypeId)(hop:o.op=Op.call { callee:=Callee.builtin Builtin.append,args:=#[s,y],argTypes:=#[t,t] })
  (x:α) (cs:List Value) (by0:Nat) (ad:Addr) (ht:P.underlying t=some (.slice T)) (hi:Pq P T d.sz by0) (hs:0<d.sz) (hby:by0<=10000) (he:a.eval s=v) (hy:a.eval y=.slice (some ad) 1 1) (h:RowK d T v xs B w) (hn:xs.length<=4294967296) (hB:B<=w.heap.size)
  (hc:∀ j u,cs[j]?=some u->w.cell? (ad.add j)=some u) (hx:d.R w (λj=>B<=j/\v.ownBlock≠some j) x cs) (hK:∀ v' w',RowK d T v' (xs++[x]) B w'->Fr (λj=>v.ownBlock=some j) w w'->(v'.ownBlock=v.ownBlock\/v'.ownBlock=some w.heap.size)->K (a.put o.dst v') w') :
  if Region.wanted o (yielded ops a.tmps)=true then Oper.wp P o a w K Q else E:=by
 have hw:Region.wanted o (yielded ops a.tmps)=true:=by simp[Region.wanted,hg]
 rw[if_pos hw];obtain⟨v',w',hr,k2,k3,k4⟩:=h.run (t:=t) (ty:=o.type) ht hi hs hby hn hB hc hx;unfold Oper.wp;simp only[execOp,hop,resolve,invoke,builtin,Sem.run_bind,Sem.run_pure,Result.andThen_ok,List.map_toArray,List.map_cons,List.map_nil,he,hy,hr];exact hK v' w' k2 k3 k4
theorem RowK.lst{ops:Array Oper}{rest:List Oper}{o:Oper}{a:Act}{Q:Exit->Act->World->Prop}(hg:o.guard=none)(s y:Operand)(t:TypeId)(hop:o.op=Op.call { callee:=Callee.builtin Builtin.append,args:=#[s,y],argTypes:=#[t,t] })
  (x:α) (cs:List Value) (by0:Nat) (ad:Addr) (ht:P.underlying t=some (.slice T)) (hi:Pq P T d.sz by0) (hs:0<d.sz) (hby:by0<=10000) (he:a.eval s=v) (hy:a.eval y=.slice (some ad) 1 1) (h:RowK d T v xs B w) (hn:xs.length<=4294967296) (hB:B<=w.heap.size)
  (hc:∀ j u,cs[j]?=some u->w.cell? (ad.add j)=some u) (hx:d.R w (λj=>B<=j/\v.ownBlock≠some j) x cs) (hK:∀ v' w',RowK d T v' (xs++[x]) B w'->Fr (λj=>v.ownBlock=some j) w w'->(v'.ownBlock=v.ownBlock\/v'.ownBlock=some w.heap.size)->wpList P ops Q rest (a.put o.dst v') w') :
  wpList P ops Q (o::rest) a w:=by
 obtain⟨v',w',hr,k2,k3,k4⟩:=h.run (t:=t) (ty:=o.type) ht hi hs hby hn hB hc hx;refine wpList_plain hg λK hK'=>?_
 unfold Oper.wp execOp;simp only[hop,resolve,invoke,builtin,Sem.run_bind,Sem.run_pure,Result.andThen_ok,List.map_toArray,List.map_cons,List.map_nil,he,hy,hr];exact hK' _ _ (hK v' w' k2 k3 k4)
end
end
section
open Go
def Yu(ops:Array Oper)(i:Nat):Option Tmp:=(ops[i]?).bind (·.dst)
def Y6(ops:Array Oper)(vals:Nat->Value):List Nat->Act->Act
 | [],a=>a
 | i::l,a=>Y6 ops vals l (a.put (Yu ops i) (vals i))
section
variable{P:Program}{ops:Array Oper}{Q:Exit->Act->World->Prop}{S:World->Prop}{z:Nat}{vals:Nat->Value}
theorem Ah(a:Act)(d:Option Tmp)(v:Value):(a.put d v).tmps.size=a.tmps.size:=by cases d<;>simp[Act.put]
theorem put_defers(a:Act)(d:Option Tmp)(v:Value):(a.put d v).defers=a.defers:=by cases d<;>rfl
theorem Uh:∀ (l:List Nat) (a:Act),(Y6 ops vals l a).tmps.size=a.tmps.size
 | [],_=>rfl
 | i::l,a=>by rw[Y6,Uh l,Ah]
theorem Q8:∀ (l:List Nat) (a:Act),(Y6 ops vals l a).defers=a.defers
 | [],_=>rfl
 | i::l,a=>by rw[Y6,Q8 l,put_defers]
theorem L1:∀ (l:List Nat) (i:Nat) (a:Act),Y6 ops vals (l++[i]) a=(Y6 ops vals l a).put (Yu ops i) (vals i)
 | [],_,_=>rfl
 | _::l,i,_=>L1 l i _
theorem Jw{vals':Nat->Value}:∀ (l:List Nat) (a:Act),(∀ i∈l,vals i=vals' i)->Y6 ops vals l a=Y6 ops vals' l a
 | [],_,_=>rfl
 | j::l,a,h=>by
  rw[Y6,Y6,h j (by simp)];exact Jw l _ (λi hi=>h i (by simp[hi]))
theorem Zb9(a:Act){d:Option Tmp}(v:Value){x:Nat}(h:d≠some x):(a.put d v).tmps[x]?=a.tmps[x]?:=by
 cases d with
 | none=>rfl
 | some d =>
  have:d≠x:=λe=>h (by rw[e])
  simp[Act.put,Array.getElem?_setIfInBounds_ne this]
theorem Vp{x:Nat}:∀ (l:List Nat) (a:Act),(∀ e∈l,Yu ops e≠some x)->(Y6 ops vals l a).tmps[x]?=a.tmps[x]?
 | [],_,_=>rfl
 | i::l,a,h=>by
  rw[Y6,Vp l _ (λe he=>h e (by simp[he])),Zb9 a _ (h i (by simp))]
theorem Q7{x e:Nat}:∀ (l:List Nat) (a:Act),(∀ j∈l,Yu ops j=some x->j=e)->e∈l->Yu ops e=some x->x<a.tmps.size->(Y6 ops vals l a).tmps[x]?=some (vals e)
 | i::l,a,h,he,hd,hx=>by
  rw[Y6];by_cases hl:e∈l
  ·exact Q7 l _ (λj hj=>h j (by simp[hj])) hl hd (by rw[Ah];exact hx)
  ·have:e=i:=(by simpa [hl] using he);subst this;rw[Vp l _ (λj hj q=>hl (h j (by simp[hj]) q▸hj)),hd];simp[Act.put,hx]
theorem Zcy{a b:Act}{x:Operand}(h:∀ t,x=.tmp t->a.tmps[t]?=b.tmps[t]?):a.eval x=b.eval x:=by
 cases x with
 | tmp t=>simp only[Act.eval,Array.getD_eq_getD_getElem?];rw[h t rfl]
 | _=>rfl
theorem Zcx{a b:Act}(o:Oper)(hs:∀ cs b,o.op ≠ .select cs b)(h:∀ t∈o.looksAt ops,a.tmps[t]?=b.tmps[t]?):execOp a.eval o=execOp b.eval o :=
 execOp_congr o hs λx hx=>Zcy λt e=>h t (by
  subst e
  exact List.mem_append_left _ (List.mem_filterMap.2 ⟨.tmp t,by simpa using hx,rfl⟩))
theorem Zkx{a b:Act}{d:Option Tmp}{u v:Value}(h:b.put d u=b.put d v)(hs:a.tmps.size=b.tmps.size):a.put d u=a.put d v:=by
 cases d with
 | none=>rfl
 | some d =>
  rcases Nat.lt_or_ge d b.tmps.size with q|q
  ·have h1:=congrArg (λc:Act=>c.tmps[d]?) h;simp only[Act.put,Array.getElem?_setIfInBounds_self_of_lt q,Option.some.injEq]at h1;rw[h1]
  ·simp[Act.put,Array.setIfInBounds_eq_of_size_le ((Om:a.tmps.size<=d))]
theorem wp_move{o:Oper}{a b:Act}{w:World}{K:Act->World->Prop}{R:Value->World->Prop}(he:execOp a.eval o=execOp b.eval o)(hs:a.tmps.size=b.tmps.size)
  (h:Oper.wp P o b w (λa' w'=>∃ v,a'=b.put o.dst v/\R v w') (λ_ _ _=>False)) (hK:∀ v w',R v w'->K (a.put o.dst v) w'):Oper.wp P o a w K Q:=by
 unfold Oper.wp at *;rw[he];generalize (execOp b.eval o).run P w=r at *
 have key:∀ u w',(∃ v,b.put o.dst u=b.put o.dst v/\R v w')->K (a.put o.dst u) w':=by
  rintro u w' ⟨v,e,hv⟩;rw[Zkx e hs];exact hK v w' hv
 cases r with
 | ok n w' =>
  cases n<;>simp only[Oper.upon]at h⊢
  case value u=>exact key u w' h
  case skip=>exact key _ w' h
  case defer d =>
   obtain⟨v,e,_⟩:=h;have:=congrArg Act.defers e;rw[put_defers,put_defers]at this;simp at this
  case enter f args =>
   refine Calls.mono h λe w'' he=>?_
   cases e with
   | returned u=>exact key u w'' he
   | panicked c=>exact he.elim
   | outgrown=>obtain⟨_,_,q⟩:=he;exact q.elim
  case row row args=>exact Rows.mono h λu w'' he=>key u w'' he
 | halt x w' =>
  cases x<;>simp only[Oper.upon]at h⊢
def Fi(E:World->World->Prop)(P:Program)(ops:Array Oper)(S:World->Prop)(F:Nat->Value->List Value->Nat->Nat->World->Prop)(a:Act)(i:Nat)(D:List Nat):Prop :=
 ∀ oi,ops[i]?=some oi->∀ (vals:Nat->Value) (W:World),S W->(∀ e∈D,∃ us lo hi,F e (vals e) us lo hi W)->∀ (Q':Exit->Act->World->Prop) (K:Act->World->Prop),Shut (∀ v a' W',a'=(Y6 ops vals D a).put oi.dst v->E W W'->F i v (D.map vals) W.heap.size W'.heap.size W'->K a' W')->Oper.wp P oi (Y6 ops vals D a) W K Q'
def Fj(E:World->World->Prop)(P:Program)(ops:Array Oper)(S:World->Prop)(F:Nat->Value->World->Prop)(a:Act)(i:Nat)(D:List Nat):Prop :=
 ∀ oi,ops[i]?=some oi->∀ (vals:Nat->Value) (W:World),S W->(∀ e∈D,F e (vals e) W)->∀ (Q':Exit->Act->World->Prop) (K:Act->World->Prop),Shut (∀ v a' W',a'=(Y6 ops vals D a).put oi.dst v->E W W'->F i v W'->K a' W')->Oper.wp P oi (Y6 ops vals D a) W K Q'
abbrev Zjx(P:Program)(ops:Array Oper)(S:World->Prop)(F:Nat->Value->World->Prop)(a:Act)(i:Nat)(D:List Nat):Prop:=Fj Zf P ops S F a i D
def Zh4(ops:Array Oper)(sp:List (Nat×List Nat))(p:Nat×List Nat):Bool :=
 p.2.all (λe=>Region.waitsFor .any ops p.1 e&&sp.any (λq=>q.1==e)) &&
 ((match ops[p.1]? with
  | some o=>(o.looksAt ops).all (λx=>sp.all λq=>!(Yu ops q.1==some x)||p.2.contains q.1)
  | none=>false) &&
 sp.all (λq=>q.1==p.1||Yu ops p.1==none || !(Yu ops q.1==Yu ops p.1)))
def Ig(ops:Array Oper)(z:Nat)(listed:Array Bool)(sp:List (Nat×List Nat))(t:Nat):Bool :=
 (decide (z<ops.size)&&(Region.noSelect ops&&decide (sp.map (·.1)).Nodup)) &&
 (sp.all (λp=>decide (p.1<z)&&(!listed.getD p.1 true&&(Zh4 ops sp p&&(Region.waitsFor .any ops t p.1||sp.any λq=>decide (p.1<q.1)&&Region.waitsFor .any ops q.1 p.1)))) &&
 ((List.range ops.size).all (λi=>listed.getD i false||(sp.any (λp=>p.1==i)||(i==t||(List.range ops.size).any λj=>Region.waitsFor .any ops i j&&(!listed.getD j false && !sp.any (λp=>p.1==j))))) &&
 (List.range ops.size).all (λi=>match ops[i]? with
  | some o=>(listed.getD i false||o.guard.isNone)&&o.after.all (λe=>!Region.binds .any e||decide (e.on<i))
  | none=>false)))
def Ie(ops:Array Oper)(z:Nat)(listed:Array Bool)(sp:List (Nat×List Nat))(t:Nat):Bool :=
 (decide (z<ops.size)&&(Region.noSelect ops&&decide (sp.map (·.1)).Nodup)) &&
 (sp.all (λp=>decide (p.1<z)&&(!listed.getD p.1 true&&(Zh4 ops sp p&&(Region.waitsFor .any ops t p.1||sp.any λq=>decide (p.1<q.1)&&Region.waitsFor .any ops q.1 p.1)))) &&
 ((List.range ops.size).all (λi=>listed.getD i false||(sp.any (λp=>p.1==i)||(i==t||(List.range ops.size).any λj=>Region.waitsFor .any ops i j&&(!listed.getD j false && !sp.any (λp=>p.1==j))))) &&
 (List.range ops.size).all (λi=>match ops[i]? with
  | some o=>(match o.guard with
   | none=>true
   | some g=>!sp.any (λp=>p.1==i)||sp.all λq=>Yu ops g.1==none || !(Yu ops q.1==Yu ops g.1))&&o.after.all (λe=>!Region.binds .any e||decide (e.on<i))
  | none=>false)))
def Wr(sp:List (Nat×List Nat))(listed:Array Bool):Array Bool:=sp.foldl (λl p=>l.setIfInBounds p.1 true) listed
theorem Lx:∀ (sp:List (Nat×List Nat)) (l:Array Bool),(Wr sp l).size=l.size
 | [],_=>rfl
 | p::sp,l=>by show (Wr sp _).size=_;rw[Lx sp];simp
theorem Jn:∀ (sp:List (Nat×List Nat)) (l:Array Bool) (k:Nat),k<l.size->((Wr sp l).getD k false=true↔(∃ D,(k,D)∈sp)\/l.getD k false=true)
 | [],l,k,_=>by simp[Wr]
 | p::sp,l,k,hk=>by
  have:=Jn sp (l.setIfInBounds p.1 true) k (by simpa using hk);show (Wr sp (l.setIfInBounds p.1 true)).getD k false=true↔_;rw[this];by_cases e:k=p.1
  ·subst e;constructor
   ·intro _;exact .inl ⟨p.2,by simp⟩
   ·intro _;right;rw[Array.getD_eq_getD_getElem?,Array.getElem?_setIfInBounds_self_of_lt hk];rfl
  ·rw[getD_set_ne false (Ne.symm e)];constructor
   ·rintro (⟨D,h⟩|h)
    ·exact .inl ⟨D,by simp[h]⟩
    ·exact .inr h
   ·rintro (⟨D,h⟩|h)
    ·rcases List.mem_cons.1 h with h|h
     ·exact absurd (congrArg Prod.fst h) e
     ·exact .inl ⟨D,h⟩
    ·exact .inr h
theorem Lu{o:Oper}(h:o.guard=none)(y:Nat->Option Bool):Region.wanted o y=true:=by unfold Region.wanted;rw[h]
theorem Zhs{L:Array Bool}(hL:L.size=ops.size)(hord:∀ i o,ops[i]?=some o->∀ e∈o.after,Region.binds .any e=true->e.on<i) :
  ∀ (n i:Nat),i=n->i<ops.size->L.getD i true=false->Region.ready .any ops L≠[]:=by
 intro n
 induction n using Nat.strongRecOn with
 | _ n ih =>
  rintro i rfl hi hu he;have hnr:i ∉ Region.ready .any ops L:=by rw[he];simp
  have ho:ops[i]?=some ops[i]:=Array.getElem?_eq_getElem hi;have:¬ ∀ e∈ops[i].after,Region.binds .any e=true->L.getD e.on false=true:=λq=>hnr (mem_ready.2 ⟨hu,_,ho,q⟩)
  have:∃ e∈ops[i].after,Region.binds .any e=true/\L.getD e.on false=false:=by
   apply Classical.byContradiction;intro q;apply this;intro e he hb
   cases hq:L.getD e.on false with
   | true=>rfl
   | false=>exact absurd ⟨e,he,hb,hq⟩ q
  obtain⟨e,hem,hb,hl⟩:=this;have hlt:=hord i _ ho e hem hb;exact ih e.on hlt e.on rfl Om (getD_in Om hl) he
theorem WZ.flowG{E:World->World->Prop}(hE0:∀ W,E W W)(hE1:∀ W1 W2 W3,E W1 W2->E W2 W3->E W1 W3){N:Nat}{listed:Array Bool}{a:Act}{w:World}(fuel t:Nat)(sp:List (Nat×List Nat))(F:Nat->Value->List Value->Nat->Nat->World->Prop)(hok:Ie ops z listed sp t=true)(hwt:∀ p∈sp,∀ o,ops[p.1]?=some o->Region.wanted o (yielded ops a.tmps)=true)(hfu:N=fuel+sp.length)
  (hS:∀ W W',S W->E W W'->S W') (hF:∀ i v us lo hi W W',E W W'->F i v us lo hi W->F i v us lo hi W') (hSw:S w) (spec:∀ p∈sp,Fi E P ops S F a p.1 p.2)
  (cont:∀ (vals:Nat->Value) (lo hi:Nat->Nat) (W:World),E w W->S W->(∀ p∈sp,F p.1 (vals p.1) (p.2.map vals) (lo p.1) (hi p.1) W)->((∀ W W',E W W'->W.heap.size<=W'.heap.size)->∀ p∈sp,∀ q∈sp,p.1≠q.1->hi p.1<=lo q.1\/hi q.1<=lo p.1)->WZ P ops Q S z fuel (Wr sp listed) (Y6 ops vals (sp.map (·.1)) a) W) :
  WZ P ops Q S z N listed a w:=by
 intro inv;unfold Ie at hok;simp only[Bool.and_eq_true,decide_eq_true_eq]at hok;obtain⟨⟨hz,hsel,hnd⟩,hsp,hcov,hall⟩:=hok;have hsel:=Region.noSelect_spec hsel
 have hops:∀ i o,ops[i]?=some o->(∀ gj gb,o.guard=some (gj,gb)->(∃ D,(i,D)∈sp)->∀ q∈sp,∀ x,Yu ops gj=some x->Yu ops q.1≠some x)/\∀ e∈o.after,Region.binds .any e=true->e.on<i:=by
  intro i o ho;have hi:=(Gs1.1 ho).1;have:=List.all_eq_true.1 hall i (List.mem_range.2 hi);rw[ho]at this;simp only[Bool.and_eq_true]at this;refine⟨λgj gb hgd hin q hq x hx hqx=>?_,λe he hb=>?_⟩
  ·have h1:=this.1;rw[hgd]at h1;simp only[Bool.or_eq_true,Bool.not_eq_true']at h1;rcases h1 with h1|h1
   ·obtain⟨D,hD⟩:=hin;have:=List.any_eq_false.1 h1 _ hD;simp at this
   ·have:=List.all_eq_true.1 h1 q hq;rw[hx,hqx]at this;simp at this
  ·have h2:=Array.all_eq_true'.1 this.2 e he;rw[hb]at h2;simpa using h2
 have hcov:∀ i,i<ops.size->listed.getD i false=false->(∃ D,(i,D)∈sp)\/i=t\/∃ j,j<ops.size/\Region.waitsFor .any ops i j=true/\listed.getD j false=false/\¬ ∃ D,(j,D)∈sp:=by
  intro i hi hl;have:=List.all_eq_true.1 hcov i (List.mem_range.2 hi);rw[hl,Bool.false_or,Bool.or_eq_true,Bool.or_eq_true]at this;rcases this with h|h|h
  ·obtain⟨p,hp,e⟩:=List.any_eq_true.1 h;obtain rfl:p.1=i:=by simpa using e
   exact .inl ⟨p.2,hp⟩
  ·exact .inr (.inl (by simpa using h))
  ·obtain⟨j,hj,e⟩:=List.any_eq_true.1 h;simp only[Bool.and_eq_true,Bool.not_eq_true']at e;refine .inr (.inr ⟨j,List.mem_range.1 hj,e.1,e.2.1,?_⟩);rintro⟨D,hD⟩;have:=List.any_eq_false.1 e.2.2 _ hD;simp at this
 have hsp:∀ p∈sp,p.1<z/\listed.getD p.1 true=false/\Zh4 ops sp p=true/\(Region.waitsFor .any ops t p.1=true\/∃ q∈sp,p.1<q.1/\Region.waitsFor .any ops q.1 p.1=true):=by
  intro p hp;have:=List.all_eq_true.1 hsp p hp;simpa only [Bool.and_eq_true,decide_eq_true_eq,Bool.not_eq_true',Bool.or_eq_true,List.any_eq_true] using this
 have hdst:∀ p∈sp,∀ q∈sp,∀ x,Yu ops p.1=some x->Yu ops q.1=some x->q.1=p.1:=by
  intro p hp q hq x h1 h2;have:=(hsp p hp).2.2.1;unfold Zh4 at this;simp only[Bool.and_eq_true,List.all_eq_true]at this;have:=this.2.2 q hq;rw[h1,h2]at this;simpa using this
 have main:∀ (n:Nat) (L:Array Bool) (vals:Nat->Value) (lo hi:Nat->Nat) (done:List Nat) (W:World),HeadInv .any ops z L->S W->E w W->(∀ i,listed.getD i false=true->L.getD i false=true) ->
   (∀ i,i∈done↔(∃ D,(i,D)∈sp)/\L.getD i false=true)->(∀ i,L.getD i false=true->listed.getD i false=false->i∈done)->(∀ p∈sp,p.1∈done->F p.1 (vals p.1) (p.2.map vals) (lo p.1) (hi p.1) W/\∀ e∈p.2,e∈done)->((∀ W W',E W W'->W.heap.size<=W'.heap.size)->(∀ i∈done,hi i<=W.heap.size)/\∀ i∈done,∀ j∈done,i≠j->hi i<=lo j\/hi j<=lo i) ->
   (sp.filter (λp=>!L.getD p.1 false)).length=n->Ms P ops Q S z (fuel+n) L (Y6 ops vals done a) W:=by
  intro n
  induction n with
  | zero =>
   intro L vals lo hi done W inv' hSW hx hmono hdone hnew hFd hiv hn
   have hempty:∀ p∈sp,L.getD p.1 false=true:=by
    intro p hp
    cases hq:L.getD p.1 false with
    | true=>rfl
    | false =>
     have:p∈sp.filter (λp=>!L.getD p.1 false):=List.mem_filter.2 ⟨hp,by rw[hq];rfl⟩;rw[List.eq_nil_of_length_eq_zero hn]at this;cases this
   have hact:Y6 ops vals done a=Y6 ops vals (sp.map (·.1)) a:=by
    have h1:(Y6 ops vals done a).tmps=(Y6 ops vals (sp.map (·.1)) a).tmps:=by
     apply Array.ext_getElem?;intro x;by_cases hx:∃ p∈sp,Yu ops p.1=some x
     ·obtain⟨p,hp,hd⟩:=hx;by_cases hs:x<a.tmps.size
      ·rw[Q7 done a (λj hj q=>?_) ((hdone p.1).2 ⟨⟨p.2,hp⟩,hempty p hp⟩) hd hs,Q7 (sp.map (·.1)) a (λj hj q=>?_) (List.mem_map.2 ⟨p,hp,rfl⟩) hd hs]
       ·obtain⟨q',hq',rfl⟩:=List.mem_map.1 hj;exact hdst p hp q' hq' x hd q
       ·obtain⟨D,hD⟩:=((hdone j).1 hj).1;exact hdst p hp _ hD x hd q
      ·rw[Array.getElem?_eq_none (by rw[Uh];omega),Array.getElem?_eq_none (by rw[Uh];omega)]
     ·rw[Vp done a (λe he q=>?_),Vp (sp.map (·.1)) a (λe he q=>?_)]
      ·obtain⟨q',hq',rfl⟩:=List.mem_map.1 he;exact hx ⟨q',hq',q⟩
      ·obtain⟨D,hD⟩:=((hdone e).1 he).1;exact hx ⟨_,hD,q⟩
    have h2:(Y6 ops vals done a).defers=(Y6 ops vals (sp.map (·.1)) a).defers:=(by rw[Q8,Q8]);generalize Y6 ops vals done a=x at h1 h2⊢;generalize Y6 ops vals (sp.map (·.1)) a=y at h1 h2⊢;cases x;cases y;simp only at h1 h2;subst h1 h2;rfl
   have hL:L=Wr sp listed:=by
    have hs1:=inv'.size;have hs2:=inv.size;apply Array.ext
    ·rw[Lx];omega
    ·intro k h1 h2;have e1:L[k]=L.getD k false:=(by simp[h1]);have e2:(Wr sp listed)[k]=(Wr sp listed).getD k false:=(by simp[h2]);rw[e1,e2,Bool.eq_iff_iff,Jn sp listed k Om];constructor
     ·intro h
      cases hl:listed.getD k false with
      | true=>exact .inr rfl
      | false=>exact .inl ((hdone k).1 (hnew k h hl)).1
     ·rintro (⟨D,hD⟩|h)
      ·exact hempty _ hD
      ·exact hmono k h
   rw[hact,hL];exact cont vals lo hi W hx hSW (λp hp=>(hFd p hp ((hdone p.1).2 ⟨⟨p.2,hp⟩,hempty p hp⟩)).1) (λhs p hp q hq=>(hiv hs).2 p.1 ((hdone p.1).2 ⟨⟨p.2,hp⟩,hempty p hp⟩) q.1 ((hdone q.1).2 ⟨⟨q.2,hq⟩,hempty q hq⟩)) (hL▸inv')
  | succ n ih =>
   intro L vals lo hi done W inv hSW hx hmono hdone hnew hFd hiv hn;refine⟨λq=>absurd q (Zhs inv.size (λi o ho=>(hops i o ho).2) z z rfl hz (inv.tail z (Nl _) hz)),λi hir=>?_⟩;obtain⟨hu,oi,hoi,haft⟩:=mem_ready.1 hir;have hil:=(Gs1.1 hoi).1;have hu2:=getD_both hu
   have hli:listed.getD i false=false:=by
    cases hl:listed.getD i false with
    | false=>rfl
    | true=>rw[hmono i hl]at hu2;cases hu2
   have waits:∀ j,Region.waitsFor .any ops i j=true->L.getD j false=true:=by
    intro j h;obtain⟨o',ho',e',he',hb,hon⟩:=Region.waitsFor_spec h;have:o'=oi:=Option.some.inj (ho'.symm.trans hoi);subst this;have:=haft e' he' hb;rwa[hon]at this
   have hin:∃ D,(i,D)∈sp:=by
    rcases hcov i hil hli with h|h|⟨j,hj,h1,h2,h3⟩
    ·exact h
    ·exfalso;subst h;have:0<(sp.filter (λp=>!L.getD p.1 false)).length:=Om;obtain⟨p,hp⟩:=List.exists_mem_of_length_pos this;obtain⟨hp1,hp2⟩:=List.mem_filter.1 hp
     have deep:∀ (m:Nat) (p:Nat×List Nat),z-p.1=m->p∈sp->L.getD p.1 false=false->False:=by
      intro m
      induction m using Nat.strongRecOn with
      | _ m ihm =>
       intro p hm hp hl;have hpz:=(hsp p hp).1;rcases (hsp p hp).2.2.2 with h|⟨q,hq,h1,h2⟩
       ·rw[waits _ h]at hl;cases hl
       ·have hqz:=(hsp q hq).1;refine ihm (z-q.1) Om q rfl hq ?_
        cases hlq:L.getD q.1 false with
        | false=>rfl
        | true =>
         obtain⟨o',ho',e',he',hb,hon⟩:=Region.waitsFor_spec h2;have:=inv.closed q.1 o' ho' hlq e' he' hb;rw[hon,hl]at this;cases this
     exact deep _ p rfl hp1 (by simpa using hp2)
    ·exfalso;have:=hnew j (waits j h1) h2;exact h3 ((hdone j).1 this).1
   obtain⟨D,hD⟩:=hin;have hiz:i<z:=(hsp _ hD).1;have hokp:=(hsp _ hD).2.2.1;unfold Zh4 at hokp;simp only[Bool.and_eq_true,List.all_eq_true,List.any_eq_true,hoi]at hokp;obtain⟨hk1,hk2,_⟩:=hokp
   have hDd:∀ e∈D,e∈done/\∃ D',(e,D')∈sp:=by
    intro e he;obtain⟨h1,q,hq,h2⟩:=hk1 e he;obtain rfl:q.1=e:=by simpa using h2
    exact⟨(hdone q.1).2 ⟨⟨q.2,hq⟩,waits _ h1⟩,q.2,hq⟩
   have hag:∀ t∈oi.looksAt ops,(Y6 ops vals done a).tmps[t]?=(Y6 ops vals D a).tmps[t]?:=by
    intro t ht;by_cases hx:∃ p∈sp,Yu ops p.1=some t
    ·obtain⟨p,hp,hd⟩:=hx
     have hpD:p.1∈D:=by
      have:=hk2 t ht p hp;rw[hd]at this;simpa using this
     by_cases hs:t<a.tmps.size
     ·rw[Q7 done a (λj hj q=>?_) (hDd _ hpD).1 hd hs,Q7 D a (λj hj q=>?_) hpD hd hs]
      ·obtain⟨D',hD'⟩:=(hDd j hj).2;exact hdst p hp _ hD' t hd q
      ·obtain⟨D',hD'⟩:=((hdone j).1 hj).1;exact hdst p hp _ hD' t hd q
     ·rw[Array.getElem?_eq_none (by rw[Uh];exact Nat.le_of_not_lt hs),Array.getElem?_eq_none (by rw[Uh];exact Nat.le_of_not_lt hs)]
    ·rw[Vp done a (λe he q=>?_),Vp D a (λe he q=>?_)]
     ·obtain⟨D',hD'⟩:=(hDd e he).2;exact hx ⟨_,hD',q⟩
     ·obtain⟨D',hD'⟩:=((hdone e).1 he).1;exact hx ⟨_,hD',q⟩
   have hwn:Region.wanted oi (yielded ops (Y6 ops vals done a).tmps)=true:=by
    have h0:=hwt _ hD oi hoi;unfold Region.wanted at h0⊢
    cases hgd:oi.guard with
    | none=>rfl
    | some g =>
     rw[hgd]at h0
     have e:yielded ops (Y6 ops vals done a).tmps g.1=yielded ops a.tmps g.1:=by
      unfold yielded;rw[show (ops[g.1]?).bind (·.dst)=Yu ops g.1 from rfl]
      cases hdg:Yu ops g.1 with
      | none=>rfl
      | some x =>
       have h1:(Y6 ops vals done a).tmps[x]?=a.tmps[x]?:=Vp done a (λe he=>by
        obtain⟨D',hD'⟩:=((hdone e).1 he).1
        exact (hops i oi hoi).1 g.1 g.2 hgd ⟨D,hD⟩ _ hD' x hdg)
       simp only[Option.bind_some,h1]
     obtain⟨gj,gb⟩:=g;simp only at h0 e⊢;rw[e];exact h0
   unfold wpOp;simp only[hoi,hwn,if_true];left
   refine wp_move (b:=Y6 ops vals D a) (R:=λv W'=>E W W'/\F i v (D.map vals) W.heap.size W'.heap.size W') (Zcx oi (λcs b=>hsel i oi cs b hoi) hag) (by rw[Uh,Uh])
    (spec _ hD oi hoi vals W hSW (λe he=>?_) _ _ (λv a' W' e1 e2 e3=>⟨v,e1,e2,e3⟩)) ?_
   ·obtain⟨h1,D',h2⟩:=hDd e he;exact⟨_,_,_,(hFd _ h2 h1).1⟩
   ·rintro v W' ⟨hx',hFv⟩;refine⟨λ_=>hS W W' hSW hx',?_⟩
    have hdi:i ∉ done:=λq=>by
     have:=((hdone i).1 q).2;rw[hu2]at this;cases this
    have hact:(Y6 ops vals done a).put oi.dst v=Y6 ops (λk=>if k=i then v else vals k) (done++[i]) a:=by
     have hc:=Jw (ops:=ops) (vals:=vals) (vals':=λk=>if k=i then v else vals k) done a (λk hk=>by
      have hki:k≠i:=λe=>hdi (e▸hk)
      show vals k=if k=i then v else vals k
      rw[if_neg hki])
     rw[L1,if_pos rfl,hc];unfold Yu;rw[hoi];rfl
    rw[hact]
    have hset:∀ k,(L.setIfInBounds i true).getD k false=true↔k=i\/L.getD k false=true:=by
     intro k;by_cases hk:k=i
     ·subst hk;rw[Array.getD_eq_getD_getElem?,Array.getElem?_setIfInBounds_self_of_lt (by rw[inv.size];omega)];simp
     ·rw[getD_set_ne false (Ne.symm hk)];simp[hk]
    refine ih _ (λk=>if k=i then v else vals k) (λk=>if k=i then W.heap.size else lo k) (λk=>if k=i then W'.heap.size else hi k) _ W' (inv.set hir hiz) (hS W W' hSW hx') (hE1 _ _ _ hx hx') (λk hk=>(hset k).2 (.inr (hmono k hk))) (λk=>?_) (λk hk hl=>?_) (λp hp hpd=>?_) (λhs=>?_) ?_
    ·rw[List.mem_append,List.mem_singleton,hset k,hdone k];constructor
     ·rintro (⟨h1,h2⟩|rfl)
      ·exact⟨h1,.inr h2⟩
      ·exact⟨⟨D,hD⟩,.inl rfl⟩
     ·rintro⟨h1,rfl|h2⟩
      ·exact .inr rfl
      ·exact .inl ⟨h1,h2⟩
    ·rcases (hset k).1 hk with rfl|q
     ·simp
     ·exact List.mem_append_left _ (hnew k q hl)
    ·have hmap:∀ l:List Nat,(∀ e∈l,e∈done)->l.map (λk=>if k=i then v else vals k)=l.map vals:=λl hl=>List.map_congr_left λe he=>by
      have hne:e≠i:=λq=>hdi (by rw[<- q];exact hl e he)
      show (if e=i then v else vals e)=vals e;rw[if_neg hne]
     show F p.1 (if p.1=i then v else vals p.1) (p.2.map λk=>if k=i then v else vals k) (if p.1=i then W.heap.size else lo p.1) (if p.1=i then W'.heap.size else hi p.1) W'/\_;by_cases e:p.1=i
     ·obtain⟨p1,p2⟩:=p;simp only at e;subst e
      have e2:p2=D:=by
       have h1:=List.pairwise_map.1 hnd;rcases List.pairwise_iff_getElem.1 h1 with h1
       obtain⟨x,hx1,ex⟩:=List.getElem_of_mem hp;obtain⟨y,hy1,ey⟩:=List.getElem_of_mem hD;rcases Nat.lt_trichotomy x y with q|q|q
       ·exact absurd (by rw[ex,ey]) (h1 x y hx1 hy1 q)
       ·subst q;rw[ex]at ey;exact congrArg Prod.snd ey
       ·exact absurd (by rw[ex,ey]) (h1 y x hy1 hx1 q)
      subst e2;rw[if_pos rfl,if_pos rfl,if_pos rfl,hmap p2 (λe he=>(hDd e he).1)];exact⟨hFv,λe he=>List.mem_append_left _ (hDd e he).1⟩
     ·have hpd:p.1∈done:=by
       rcases List.mem_append.1 hpd with q|q
       ·exact q
       ·exact absurd (List.mem_singleton.1 q) e
      rw[if_neg e,if_neg e,if_neg e,hmap p.2 (hFd p hp hpd).2];exact⟨hF _ _ _ _ _ W W' hx' (hFd p hp hpd).1,λe he=>List.mem_append_left _ ((hFd p hp hpd).2 e he)⟩
    ·have hm:=hs W W' hx';obtain⟨k1,k2⟩:=hiv hs;have hne:∀ j∈done,j≠i:=λj hj q=>hdi (q▸hj)
     refine⟨λj hj=>?_,λj hj k hk hjk=>?_⟩
     ·show (if j=i then W'.heap.size else hi j)<=_;rcases List.mem_append.1 hj with q|q
      ·rw[if_neg (hne j q)];exact Nt (k1 j q) hm
      ·rw[if_pos (List.mem_singleton.1 q)];exact Nl _
     ·show (if j=i then W'.heap.size else hi j)<=(if k=i then W.heap.size else lo k)\/(if k=i then W'.heap.size else hi k)<=(if j=i then W.heap.size else lo j);rcases List.mem_append.1 hj with q|q<;>rcases List.mem_append.1 hk with r|r
      ·rw[if_neg (hne j q),if_neg (hne k r),if_neg (hne j q),if_neg (hne k r)];exact k2 j q k r hjk
      ·rw[if_neg (hne j q),if_pos (List.mem_singleton.1 r)];exact .inl (k1 j q)
      ·right;rw[if_neg (hne k r),if_pos (List.mem_singleton.1 q)];exact k1 k r
      ·exact absurd ((List.mem_singleton.1 q).trans (List.mem_singleton.1 r).symm) hjk
    ·have hnd':∀ (l:List (Nat×List Nat)) (n:Nat),(l.map (·.1)).Nodup->(i,D)∈l->(l.filter (λp=>!L.getD p.1 false)).length=n+1->(l.filter (λp=>!(L.setIfInBounds i true).getD p.1 false)).length=n:=by
      have same:∀ l:List (Nat×List Nat),i ∉ l.map (·.1)->l.filter (λp=>!(L.setIfInBounds i true).getD p.1 false)=l.filter (λp=>!L.getD p.1 false):=by
       intro l hl;apply List.filter_congr;intro p hp;rw[getD_set_ne false (λe=>hl (List.mem_map.2 ⟨p,hp,e.symm⟩))]
      clear ih hn;intro l
      induction l with
      | nil=>intro n _ h;cases h
      | cons p l ihl =>
       intro n hnd hm hc;rw[List.map_cons,List.nodup_cons]at hnd;rcases List.mem_cons.1 hm with e|hm
       ·subst e;have h1:(L.setIfInBounds i true).getD i false=true:=(hset i).2 (.inl rfl);rw[List.filter_cons,show (!(L.setIfInBounds i true).getD i false)=false by rw[h1];rfl,if_neg (by simp),same l hnd.1];rw[List.filter_cons,show (!L.getD i false)=true by rw[hu2];rfl,if_pos rfl,List.length_cons]at hc;omega
       ·have hne:p.1≠i:=λe=>hnd.1 (e▸List.mem_map.2 ⟨_,hm,rfl⟩)
        rw[List.filter_cons,getD_set_ne false (Ne.symm hne)];rw[List.filter_cons]at hc
        cases hq:(!L.getD p.1 false) with
        | true =>
         rw[hq,if_pos rfl,List.length_cons]at hc;rw[if_pos rfl,List.length_cons];have hpos:0<(l.filter (λp=>!L.getD p.1 false)).length:=List.length_pos_of_mem (List.mem_filter.2 ⟨hm,by show (!L.getD i false)=true;rw[hu2];rfl⟩);obtain⟨m,rfl⟩:∃ m,n=m+1:=⟨n-1,Om⟩;have:=ihl m hnd.2 hm Om;omega
        | false =>
         rw[hq,if_neg (by simp)]at hc;rw[if_neg (by simp)];exact ihl n hnd.2 hm hc
     exact hnd' sp n hnd hD hn
 subst hfu
 have hfil:(sp.filter (λp=>!listed.getD p.1 false)).length=sp.length:=by
  rw[List.filter_eq_self.2 (λp hp=>by rw[getD_both (hsp p hp).2.1];rfl)]
 refine main sp.length listed (λ_=>undef) (λ_=>0) (λ_=>0) [] w inv hSw (hE0 w) (λ_ h=>h) (λi=>?_) (λi h1 h2=>?_) (λp _ h=>nomatch h) (λ_=>⟨λ_ h=>(nomatch h),λ_ h=>(nomatch h)⟩) hfil
 ·constructor
  ·intro h;cases h
  ·rintro⟨⟨D,hD⟩,h⟩;rw[getD_both (hsp _ hD).2.1]at h;cases h
 ·rw[h1]at h2;cases h2
theorem Lh{listed:Array Bool}{sp:List (Nat×List Nat)}{t:Nat}(h:Ig ops z listed sp t=true):Ie ops z listed sp t=true/\∀ p∈sp,∀ o,ops[p.1]?=some o->o.guard=none:=by
 unfold Ig at h;unfold Ie;obtain⟨h1,h⟩:=Bool.and_eq_true_iff.1 h;obtain⟨h2,h⟩:=Bool.and_eq_true_iff.1 h;obtain⟨h3,h4⟩:=Bool.and_eq_true_iff.1 h;have hsp:=List.all_eq_true.1 h2
 have hg:∀ p∈sp,∀ o,ops[p.1]?=some o->o.guard=none:=by
  intro p hp o ho;have hi:=(Gs1.1 ho).1;have:=List.all_eq_true.1 h4 p.1 (List.mem_range.2 hi);rw[ho]at this;simp only[Bool.and_eq_true,Bool.or_eq_true,Option.isNone_iff_eq_none]at this;refine this.1.resolve_left (λhl=>?_);have h5:=hsp p hp;simp only[Bool.and_eq_true,Bool.not_eq_true']at h5;rw[getD_both h5.2.1]at hl;cases hl
 refine⟨?_,hg⟩;rw[h1,h2,h3,Bool.true_and,Bool.true_and,Bool.true_and,List.all_eq_true];intro i hi;have:=List.all_eq_true.1 h4 i hi
 cases ho:ops[i]? with
 | none=>rw[ho]at this;exact this
 | some o =>
  rw[ho]at this;simp only[Bool.and_eq_true]at this⊢;refine⟨?_,this.2⟩
  cases hgd:o.guard with
  | none=>rfl
  | some g =>
   simp only[Bool.or_eq_true,Bool.not_eq_true'];left;rw[List.any_eq_false];intro p hp he;obtain rfl:p.1=i:=by simpa using he
   rw[hg p hp o ho]at hgd;cases hgd
theorem WZ.flowI{E:World->World->Prop}(hE0:∀ W,E W W)(hE1:∀ W1 W2 W3,E W1 W2->E W2 W3->E W1 W3){N:Nat}{listed:Array Bool}{a:Act}{w:World}(fuel t:Nat)(sp:List (Nat×List Nat))(F:Nat->Value->List Value->Nat->Nat->World->Prop)(hok:Ig ops z listed sp t=true)(hfu:N=fuel+sp.length)
  (hS:∀ W W',S W->E W W'->S W') (hF:∀ i v us lo hi W W',E W W'->F i v us lo hi W->F i v us lo hi W') (hSw:S w) (spec:∀ p∈sp,Fi E P ops S F a p.1 p.2)
  (cont:∀ (vals:Nat->Value) (lo hi:Nat->Nat) (W:World),E w W->S W->(∀ p∈sp,F p.1 (vals p.1) (p.2.map vals) (lo p.1) (hi p.1) W)->((∀ W W',E W W'->W.heap.size<=W'.heap.size)->∀ p∈sp,∀ q∈sp,p.1≠q.1->hi p.1<=lo q.1\/hi q.1<=lo p.1)->WZ P ops Q S z fuel (Wr sp listed) (Y6 ops vals (sp.map (·.1)) a) W) :
  WZ P ops Q S z N listed a w :=
 WZ.flowG hE0 hE1 fuel t sp F (Lh hok).1 (λp hp o ho=>Lu ((Lh hok).2 p hp o ho) _) hfu hS hF hSw spec cont
theorem WZ.flowE{E:World->World->Prop}(hE0:∀ W,E W W)(hE1:∀ W1 W2 W3,E W1 W2->E W2 W3->E W1 W3){N:Nat}{listed:Array Bool}{a:Act}{w:World}(fuel t:Nat)(sp:List (Nat×List Nat))(F:Nat->Value->World->Prop)(hok:Ig ops z listed sp t=true)(hfu:N=fuel+sp.length)
  (hS:∀ W W',S W->E W W'->S W') (hF:∀ i v W W',E W W'->F i v W->F i v W') (hSw:S w) (spec:∀ p∈sp,Fj E P ops S F a p.1 p.2)
  (cont:∀ (vals:Nat->Value) (W:World),E w W->S W->(∀ p∈sp,F p.1 (vals p.1) W)->WZ P ops Q S z fuel (Wr sp listed) (Y6 ops vals (sp.map (·.1)) a) W) :
  WZ P ops Q S z N listed a w :=
 WZ.flowI hE0 hE1 fuel t sp (λi v _ _ _ W=>F i v W) hok hfu hS (λi v _ _ _ W W'=>hF i v W W') hSw (λp hp oi ho vals W hs hD=>spec p hp oi ho vals W hs (λe he=>by obtain⟨_,_,_,h⟩:=hD e he;exact h)) (λvals _ _ W h1 h2 h3 _=>cont vals W h1 h2 h3)
theorem WZ.flow{N:Nat}{listed:Array Bool}{a:Act}{w:World}(fuel t:Nat)(sp:List (Nat×List Nat))(F:Nat->Value->World->Prop)(hok:Ig ops z listed sp t=true)(hfu:N=fuel+sp.length)
  (hS:∀ W W',S W->Zf W W'->S W') (hF:∀ i v W W',Zf W W'->F i v W->F i v W') (hSw:S w) (spec:∀ p∈sp,Zjx P ops S F a p.1 p.2)
  (cont:∀ (vals:Nat->Value) (W:World),Zf w W->S W->(∀ p∈sp,F p.1 (vals p.1) W)->WZ P ops Q S z fuel (Wr sp listed) (Y6 ops vals (sp.map (·.1)) a) W) :
  WZ P ops Q S z N listed a w :=
 WZ.flowE (λ_=>Fl _) (λ_ _ _ f g=>f.trans g (λ_ _ e=>e)) fuel t sp F hok hfu hS hF hSw spec cont
def Yc(vals:Nat->Value):List (Nat×Tmp)->Act->Act
 | [],a=>a
 | p::l,a=>Yc vals l (a.put (some p.2) (vals p.1))
theorem Np:∀ (l:List (Nat×Tmp)) (a:Act),(∀ p∈l,Yu ops p.1=some p.2)->Yc vals l a=Y6 ops vals (l.map (·.1)) a
 | [],_,_=>rfl
 | p::l,a,h=>by
  rw[Yc,List.map_cons,Y6,h p (by simp)];exact Np l _ (λq hq=>h q (by simp[hq]))
def Fg(P:Program)(ops:Array Oper)(S:World->Prop)(F:Nat->Value->World->Prop)(a:Act)(p:Nat×Tmp×List (Nat×Tmp)):Prop :=
 ∃ oi,ops[p.1]?=some oi/\∀ (vals:Nat->Value) (W:World),S W->(∀ e∈p.2.2,F e.1 (vals e.1) W)->∀ (Q':Exit->Act->World->Prop) (K:Act->World->Prop),Shut (∀ v a' W',a'=(Yc vals p.2.2 a).put (some p.2.1) v->Zf W W'->F p.1 v W'->K a' W')->Oper.wp P oi (Yc vals p.2.2 a) W K Q'
def Id(ops:Array Oper)(z:Nat)(listed:Array Bool)(sp:List (Nat×Tmp×List (Nat×Tmp)))(t:Nat):Bool :=
 Ig ops z listed (sp.map λp=>(p.1,p.2.2.map (·.1))) t&&sp.all (λp=>Yu ops p.1==some p.2.1&&p.2.2.all λe=>Yu ops e.1==some e.2)
theorem WZ.flowP{N:Nat}{listed:Array Bool}{a:Act}{w:World}(fuel t:Nat)(sp:List (Nat×Tmp×List (Nat×Tmp)))(F:Nat->Value->World->Prop)(hok:Id ops z listed sp t=true)(hfu:N=fuel+sp.length)
  (hS:∀ W W',S W->Zf W W'->S W') (hF:∀ i v W W',Zf W W'->F i v W->F i v W') (hSw:S w) (spec:∀ p∈sp,Fg P ops S F a p)
  (cont:∀ (vals:Nat->Value) (W:World),Zf w W->S W->(∀ p∈sp,F p.1 (vals p.1) W)->WZ P ops Q S z fuel (Wr (sp.map λp=>(p.1,p.2.2.map (·.1))) listed) (Yc vals (sp.map λp=>(p.1,p.2.1)) a) W) :
  WZ P ops Q S z N listed a w:=by
 unfold Id at hok;rw[Bool.and_eq_true,List.all_eq_true]at hok
 have hd:∀ p∈sp,Yu ops p.1=some p.2.1/\∀ e∈p.2.2,Yu ops e.1=some e.2:=by
  intro p hp;have:=hok.2 p hp;rw[Bool.and_eq_true,List.all_eq_true]at this;exact⟨by simpa using this.1,λe he=>by simpa using this.2 e he⟩
 refine WZ.flow fuel t (sp.map λp=>(p.1,p.2.2.map (·.1))) F hok.1 (by rw[List.length_map];exact hfu) hS hF hSw (λp hp=>?_) (λvals W hx hSW hv=>?_)
 ·obtain⟨q,hq,rfl⟩:=List.mem_map.1 hp;obtain⟨oi,hoi,h⟩:=spec q hq;intro oj hoj vals W hSW hD Q' K hK;obtain rfl:oi=oj:=Option.some.inj (hoi.symm.trans hoj);have e:=Np (vals:=vals) q.2.2 a (hd q hq).2
  have e2:oi.dst=some q.2.1:=by
   have:=(hd q hq).1;unfold Yu at this;rwa[hoi]at this
  show Oper.wp P oi (Y6 ops vals (q.2.2.map (·.1)) a) W K Q';rw[<- e];refine h vals W hSW (λx hx=>hD x.1 (List.mem_map.2 ⟨x,hx,rfl⟩)) Q' K (λv a' W' h1 h2 h3=>hK v a' W' ?_ h2 h3);show a'=(Y6 ops vals (q.2.2.map (·.1)) a).put oi.dst v;rw[h1,<- e,e2]
 ·have:=cont vals W hx hSW (λp hp=>hv _ (List.mem_map.2 ⟨p,hp,rfl⟩));rw[Np (ops:=ops) _ a (λp hp=>by obtain⟨q,hq,rfl⟩:=List.mem_map.1 hp;exact (hd q hq).1)]at this;rw[List.map_map]at this⊢;exact this
def tab(l:List (Nat×(Value->World->Prop)))(i:Nat):Value->World->Prop:=((l.find? λp=>p.1==i).map (·.2)).getD λ_ _=>True
theorem Zg5{l:List (Nat×(Value->World->Prop))}(h:∀ p∈l,∀ v W W',Zf W W'->p.2 v W->p.2 v W'):∀ i v W W',Zf W W'->tab l i v W->tab l i v W':=by
 intro i v W W' f;unfold tab
 cases hq:l.find? λp=>p.1==i with
 | none=>exact λh=>h
 | some p=>exact h p (List.mem_of_find?_eq_some hq) v W W' f
theorem WZ.flowT{N:Nat}{listed:Array Bool}{a:Act}{w:World}(fuel t:Nat)(sp:List (Nat×Tmp×List (Nat×Tmp)))(R:List (Nat×(Value->World->Prop)))(hok:Id ops z listed sp t=true)(hfu:N=fuel+sp.length)
  (hS:∀ W W',S W->Zf W W'->S W') (hR:∀ p∈R,∀ v W W',Zf W W'->p.2 v W->p.2 v W') (hSw:S w) (spec:∀ p∈sp,Fg P ops S (tab R) a p)
  (cont:∀ (vals:Nat->Value) (W:World),Zf w W->S W->(∀ p∈sp,tab R p.1 (vals p.1) W)->WZ P ops Q S z fuel (Wr (sp.map λp=>(p.1,p.2.2.map (·.1))) listed) (Yc vals (sp.map λp=>(p.1,p.2.1)) a) W) :
  WZ P ops Q S z N listed a w:=WZ.flowP fuel t sp (tab R) hok hfu hS (Zg5 hR) hSw spec cont
def Ve(vals:Nat->Value):List (Nat×Option Tmp)->Act->Act
 | [],a=>a
 | p::l,a=>Ve vals l (a.put p.2 (vals p.1))
theorem Ez:∀ (l:List (Nat×Option Tmp)) (a:Act),(∀ p∈l,Yu ops p.1=p.2)->Ve vals l a=Y6 ops vals (l.map (·.1)) a
 | [],_,_=>rfl
 | p::l,a,h=>by
  rw[Ve,List.map_cons,Y6,h p (by simp)];exact Ez l _ (λq hq=>h q (by simp[hq]))
def Zgr(E:World->World->Prop)(P:Program)(ops:Array Oper)(S:World->Prop)(F:Nat->Value->World->Prop)(a:Act)(p:Nat×Option Tmp×List (Nat×Option Tmp)):Prop :=
 ∃ oi,ops[p.1]?=some oi/\∀ (vals:Nat->Value) (W:World),S W->(∀ e∈p.2.2,F e.1 (vals e.1) W)->∀ (Q':Exit->Act->World->Prop) (K:Act->World->Prop),Shut (∀ v a' W',a'=(Ve vals p.2.2 a).put p.2.1 v->E W W'->F p.1 v W'->K a' W')->Oper.wp P oi (Ve vals p.2.2 a) W K Q'
def Ziy(ops:Array Oper)(z:Nat)(listed:Array Bool)(sp:List (Nat×Option Tmp×List (Nat×Option Tmp)))(t:Nat):Bool :=
 Ig ops z listed (sp.map λp=>(p.1,p.2.2.map (·.1))) t&&sp.all (λp=>Yu ops p.1==p.2.1&&p.2.2.all λe=>Yu ops e.1==e.2)
theorem Ze7{E:World->World->Prop}{l:List (Nat×(Value->World->Prop))}(h:∀ p∈l,∀ v W W',E W W'->p.2 v W->p.2 v W'):∀ i v W W',E W W'->tab l i v W->tab l i v W':=by
 intro i v W W' f;unfold tab
 cases hq:l.find? λp=>p.1==i with
 | none=>exact λh=>h
 | some p=>exact h p (List.mem_of_find?_eq_some hq) v W W' f
theorem WZ.flowO{E:World->World->Prop}(hE0:∀ W,E W W)(hE1:∀ W1 W2 W3,E W1 W2->E W2 W3->E W1 W3){N:Nat}{listed:Array Bool}{a:Act}{w:World}(fuel t:Nat)(sp:List (Nat×Option Tmp×List (Nat×Option Tmp)))(R:List (Nat×(Value->World->Prop)))(hok:Ziy ops z listed sp t=true)(hfu:N=fuel+sp.length)
  (hS:∀ W W',S W->E W W'->S W') (hR:∀ p∈R,∀ v W W',E W W'->p.2 v W->p.2 v W') (hSw:S w) (spec:∀ p∈sp,Zgr E P ops S (tab R) a p)
  (cont:∀ (vals:Nat->Value) (W:World),E w W->S W->(∀ p∈sp,tab R p.1 (vals p.1) W)->WZ P ops Q S z fuel (Wr (sp.map λp=>(p.1,p.2.2.map (·.1))) listed) (Ve vals (sp.map λp=>(p.1,p.2.1)) a) W) :
  WZ P ops Q S z N listed a w:=by
 unfold Ziy at hok;rw[Bool.and_eq_true,List.all_eq_true]at hok
 have hd:∀ p∈sp,Yu ops p.1=p.2.1/\∀ e∈p.2.2,Yu ops e.1=e.2:=by
  intro p hp;have:=hok.2 p hp;rw[Bool.and_eq_true,List.all_eq_true]at this;exact⟨by simpa using this.1,λe he=>by simpa using this.2 e he⟩
 refine WZ.flowE hE0 hE1 fuel t (sp.map λp=>(p.1,p.2.2.map (·.1))) (tab R) hok.1 (by rw[List.length_map];exact hfu) hS (Ze7 hR) hSw (λp hp=>?_) (λvals W hx hSW hv=>?_)
 ·obtain⟨q,hq,rfl⟩:=List.mem_map.1 hp;obtain⟨oi,hoi,h⟩:=spec q hq;intro oj hoj vals W hSW hD Q' K hK;obtain rfl:oi=oj:=Option.some.inj (hoi.symm.trans hoj);have e:=Ez (vals:=vals) q.2.2 a (hd q hq).2
  have e2:oi.dst=q.2.1:=by
   have:=(hd q hq).1;unfold Yu at this;rwa[hoi]at this
  show Oper.wp P oi (Y6 ops vals (q.2.2.map (·.1)) a) W K Q';rw[<- e];refine h vals W hSW (λx hx=>hD x.1 (List.mem_map.2 ⟨x,hx,rfl⟩)) Q' K (λv a' W' h1 h2 h3=>hK v a' W' ?_ h2 h3);show a'=(Y6 ops vals (q.2.2.map (·.1)) a).put oi.dst v;rw[h1,<- e,e2]
 ·have:=cont vals W hx hSW (λp hp=>hv _ (List.mem_map.2 ⟨p,hp,rfl⟩));rw[Ez (ops:=ops) _ a (λp hp=>by obtain⟨q,hq,rfl⟩:=List.mem_map.1 hp;exact (hd q hq).1)]at this;rw[List.map_map]at this⊢;exact this
def Ee(l:List (Nat×(Value->List Value->Nat->Nat->World->Prop)))(i:Nat):Value->List Value->Nat->Nat->World->Prop:=((l.find? λp=>p.1==i).map (·.2)).getD λ_ _ _ _ _=>True
theorem Ze8{E:World->World->Prop}{l:List (Nat×(Value->List Value->Nat->Nat->World->Prop))}(h:∀ p∈l,∀ v us lo hi W W',E W W'->p.2 v us lo hi W->p.2 v us lo hi W'):∀ i v us lo hi W W',E W W'->Ee l i v us lo hi W->Ee l i v us lo hi W':=by
 intro i v us lo hi W W' f;unfold Ee
 cases hq:l.find? λp=>p.1==i with
 | none=>exact λh=>h
 | some p=>exact h p (List.mem_of_find?_eq_some hq) v us lo hi W W' f
def Fh(P:Program)(ops:Array Oper)(S:World->Prop)(F:Nat->Value->List Value->Nat->Nat->World->Prop)(a:Act)(p:Nat×Tmp×List (Nat×Tmp)):Prop :=
 ∃ oi,ops[p.1]?=some oi/\∀ (vals:Nat->Value) (W:World),S W->(∀ e∈p.2.2,∃ us lo hi,F e.1 (vals e.1) us lo hi W)->∀ (Q':Exit->Act->World->Prop) (K:Act->World->Prop),Shut (∀ v a' W',a'=(Yc vals p.2.2 a).put (some p.2.1) v->Zf W W'->F p.1 v (p.2.2.map λe=>vals e.1) W.heap.size W'.heap.size W'->K a' W')->Oper.wp P oi (Yc vals p.2.2 a) W K Q'
def Dl(ops:Array Oper)(z:Nat)(listed:Array Bool)(sp:List (Nat×Tmp×List (Nat×Tmp)))(t:Nat):Bool :=
 Ie ops z listed (sp.map λp=>(p.1,p.2.2.map (·.1))) t&&sp.all (λp=>Yu ops p.1==some p.2.1&&p.2.2.all λe=>Yu ops e.1==some e.2)
theorem WZ.flowJG{N:Nat}{listed:Array Bool}{a:Act}{w:World}(fuel t:Nat)(sp:List (Nat×Tmp×List (Nat×Tmp)))(R:List (Nat×(Value->List Value->Nat->Nat->World->Prop)))(hok:Dl ops z listed sp t=true)(hwt:∀ p∈sp,∀ o,ops[p.1]?=some o->Region.wanted o (yielded ops a.tmps)=true)(hfu:N=fuel+sp.length)
  (hS:∀ W W',S W->Zf W W'->S W') (hR:∀ p∈R,∀ v us lo hi W W',Zf W W'->p.2 v us lo hi W->p.2 v us lo hi W') (hSw:S w) (spec:∀ p∈sp,Fh P ops S (Ee R) a p)
  (cont:∀ (vals:Nat->Value) (lo hi:Nat->Nat) (W:World),Zf w W->S W->(∀ p∈sp,Ee R p.1 (vals p.1) (p.2.2.map λe=>vals e.1) (lo p.1) (hi p.1) W)->(∀ p∈sp,∀ q∈sp,p.1≠q.1->hi p.1<=lo q.1\/hi q.1<=lo p.1)->WZ P ops Q S z fuel (Wr (sp.map λp=>(p.1,p.2.2.map (·.1))) listed) (Yc vals (sp.map λp=>(p.1,p.2.1)) a) W) :
  WZ P ops Q S z N listed a w:=by
 unfold Dl at hok;rw[Bool.and_eq_true,List.all_eq_true]at hok
 have hd:∀ p∈sp,Yu ops p.1=some p.2.1/\∀ e∈p.2.2,Yu ops e.1=some e.2:=by
  intro p hp;have:=hok.2 p hp;rw[Bool.and_eq_true,List.all_eq_true]at this;exact⟨by simpa using this.1,λe he=>by simpa using this.2 e he⟩
 refine WZ.flowG (λ_=>Fl _) (λ_ _ _ f g=>f.trans g (λ_ _ e=>e)) fuel t (sp.map λp=>(p.1,p.2.2.map (·.1))) (Ee R) hok.1 (λp hp=>by
  obtain⟨q,hq,rfl⟩:=List.mem_map.1 hp
  exact hwt q hq) (by rw[List.length_map];exact hfu) hS (Ze8 hR) hSw (λp hp=>?_) (λvals lo hi W hx hSW hv hiv=>?_)
 ·obtain⟨q,hq,rfl⟩:=List.mem_map.1 hp;obtain⟨oi,hoi,h⟩:=spec q hq;intro oj hoj vals W hSW hD Q' K hK;obtain rfl:oi=oj:=Option.some.inj (hoi.symm.trans hoj);have e:=Np (vals:=vals) q.2.2 a (hd q hq).2
  have e2:oi.dst=some q.2.1:=by
   have:=(hd q hq).1;unfold Yu at this;rwa[hoi]at this
  show Oper.wp P oi (Y6 ops vals (q.2.2.map (·.1)) a) W K Q';rw[<- e];refine h vals W hSW (λx hx=>hD x.1 (List.mem_map.2 ⟨x,hx,rfl⟩)) Q' K (λv a' W' h1 h2 h3=>hK v a' W' ?_ h2 (by show Ee R q.1 v ((q.2.2.map (·.1)).map vals) _ _ W';rw[List.map_map];exact h3));show a'=(Y6 ops vals (q.2.2.map (·.1)) a).put oi.dst v;rw[h1,<- e,e2]
 ·have:=cont vals lo hi W hx hSW (λp hp=>by
   have:=hv _ (List.mem_map.2 ⟨p,hp,rfl⟩);simp only[List.map_map]at this
   exact this) (λp hp q hq=>hiv (λ_ _ f=>f.size) _ (List.mem_map.2 ⟨p,hp,rfl⟩) _ (List.mem_map.2 ⟨q,hq,rfl⟩))
  rw[Np (ops:=ops) _ a (λp hp=>by obtain⟨q,hq,rfl⟩:=List.mem_map.1 hp;exact (hd q hq).1)]at this;rw[List.map_map]at this⊢;exact this
theorem WZ.flowJ{N:Nat}{listed:Array Bool}{a:Act}{w:World}(fuel t:Nat)(sp:List (Nat×Tmp×List (Nat×Tmp)))(R:List (Nat×(Value->List Value->Nat->Nat->World->Prop)))(hok:Id ops z listed sp t=true)(hfu:N=fuel+sp.length)
  (hS:∀ W W',S W->Zf W W'->S W') (hR:∀ p∈R,∀ v us lo hi W W',Zf W W'->p.2 v us lo hi W->p.2 v us lo hi W') (hSw:S w) (spec:∀ p∈sp,Fh P ops S (Ee R) a p)
  (cont:∀ (vals:Nat->Value) (lo hi:Nat->Nat) (W:World),Zf w W->S W->(∀ p∈sp,Ee R p.1 (vals p.1) (p.2.2.map λe=>vals e.1) (lo p.1) (hi p.1) W)->(∀ p∈sp,∀ q∈sp,p.1≠q.1->hi p.1<=lo q.1\/hi q.1<=lo p.1)->WZ P ops Q S z fuel (Wr (sp.map λp=>(p.1,p.2.2.map (·.1))) listed) (Yc vals (sp.map λp=>(p.1,p.2.1)) a) W) :
  WZ P ops Q S z N listed a w:=by
 unfold Id at hok;rw[Bool.and_eq_true]at hok;obtain⟨h1,h2⟩:=Lh hok.1;refine WZ.flowJG fuel t sp R (by unfold Dl;rw[Bool.and_eq_true];exact⟨h1,hok.2⟩) (λp hp o ho=>Lu (h2 _ (List.mem_map.2 ⟨p,hp,rfl⟩) o ho) _) hfu hS hR hSw spec cont
end
end
section
open Go.RowKit DT SS TR
abbrev Kn:TypeId:=160
theorem Zlg:Pq Tryz.prog Kn 4 80:=Qg Kr
theorem Zc9(w:World)(cs:List Value)(T:TypeId):∀ j u,cs[j]?=some u->(w.alloc (.cells cs.toArray T)).cell? ((⟨w.heap.size,0,none⟩:Addr).add j)=some u:=λj u h=>by
 rw[Addr.add_lit,Nat.zero_add];exact cell_of (alloc_at w (.cells cs.toArray T)) j u (by simpa using h)
theorem Gh{w:World}{b:Nat}{cs:List Value}{T:TypeId}(h:w.heap[b]?=some (.cells cs.toArray T (0,0))):∀ j u,cs[j]?=some u->w.cell? ((⟨b,0,none⟩:Addr).add j)=some u:=λj u hj=>by
 rw[Addr.add_lit,Nat.zero_add];exact cell_of h j u (by simpa using hj)
theorem B8(us:List GRec)(A:Option Addr)(c:Nat)(w:World)(O:Nat->Prop)(h:tRec.At w O A us)(hl:us.length<=1000)(ht:∀ u∈us,u.tokens.length<=2147483647/\u.yomi.length<=2147483647) :
    Calls Tryz.prog 152 #[.slice A us.length c] w λe w'=>∃ v,e=.returned v/\RowK tRec Kn v us w.heap.size w'/\Zf w w':=by
  have mixed:Tryz.prog.follows .mixedOrders=true:=Kr
  obtain⟨n,hn⟩:∃ n,n=us.length:=⟨_,rfl⟩;have HU:=Hd (Ai1 h (Ai1 ht hn));rw[<- hn]at hl⊢;clear h ht hn;go_enter Tryz.func152,Tryz.ntmps152
  go_wp2_with fail
  go_loopg [3,8] n (λg1 v3 v8 wr=>∃ (i:Nat) (u:Value),v3=u/\v8=.int .i64 (i:Int)/\i<=n/\n<=i+g1/\Hid (RowK tRec Kn u (us.take i) w.heap.size wr/\Zf w wr))
  case atStart=>exact⟨0,_,rfl,rfl,Om,Om,RowK.nil _,Fl _⟩
  case round =>
    obtain⟨i,u,rfl,rfl,hi,hg,HR⟩:=hrel;by_cases hlt:i<n
    · have hlz:(i:Int)<(n:Int):=Om
      have hz0:(0:Int)<=(i:Int):=Om;have hil:i<us.length:=by rw[<- HU.out.2.2];exact hlt
      obtain⟨b,o,p,q,rfl,_,hbl,hp,hq,hs1,hs2,e0,e1,e2,e3⟩:=Eu HU.out.1 i hil;have htl:=HU.out.2.1 _ (List.getElem_mem hil);have HT:Hid (us.take (i+1)=us.take i++[us[i]]):=List.take_succ_eq_append_getElem hil;have q0:=HR.out.2.cell e0 id;have q1:=HR.out.2.cell e1 id;have q2:=HR.out.2.cell e2 id;have q3:=HR.out.2.cell e3 id;have HX:=Hd (Ai1 (strs.ext (strs.mono (O':=λk=>k<w.heap.size) (λk hk _=>hk) hp) HR.out.2) (Ai1 (strs.ext (strs.mono (O':=λk=>k<w.heap.size) (λk hk _=>hk) hq) HR.out.2) (Ai1 htl (Ai1 hs1 hs2))));obtain⟨Ap,cp,ep,_⟩:=hp;obtain⟨Aq,cq,eq,_⟩:=hq;cases ep;cases eq;have hwl:w.heap.size<=wr.heap.size:=HR.out.2.size;clear e0 e1 e2 e3 htl hs1 hs2;generalize us[i]=x at *;clear hil;have hlow:=HR.out.1.low;go_upto_region 5 with fail
      obtain⟨w1,hw1⟩:∃ W,W=wr.alloc (.cells #[.string x.text,.slice Ap x.tokens.length cp,.slice Aq x.yomi.length cq,.string x.pos] 70):=⟨_,rfl⟩;have X1:Zf wr w1:=by rw[hw1];exact (Fl _).alloc _
      have hB1:w1.heap[wr.heap.size]?=some (.cells #[.string x.text,.slice Ap x.tokens.length cp,.slice Aq x.yomi.length cq,.string x.pos] 70 (0,0)):=by rw[hw1];exact alloc_at _ _
      have HSS:Hid (∀ W,Fr (λj=>u3.ownBlock=some j) w1 W->W.cell? ⟨wr.heap.size,0,none⟩=some (.string x.text)/\W.cell? ⟨wr.heap.size,1,none⟩=some (.slice Ap x.tokens.length cp)/\W.cell? ⟨wr.heap.size,2,none⟩=some (.slice Aq x.yomi.length cq)/\W.cell? ⟨wr.heap.size,3,none⟩=some (.string x.pos)):=λW f=>by
        have hb:=f.heap hB1 (λe=>by have:=hlow _ e;omega);exact⟨cell_of hb 0 _ rfl,cell_of hb 1 _ rfl,cell_of hb 2 _ rfl,cell_of hb 3 _ rfl⟩
      have HK:=Hd (Ai1 (HR.out.1.ext X1) (HR.out.2.trans X1 (λ_ _ e=>e)));have HX1:=Hd (Ai1 (strs.ext HX.out.1 X1) (Ai1 (strs.ext HX.out.2.1 X1) HX.out.2.2));have hs1:=X1.size;have HL:=Hd HK.out.1.low;rw[<- hw1];clear hw1 hB1 X1 HR HX q0 q1 q2 q3 hlow;refine Ya 14 15 #[false,false,false,false,false,false,false,false,false,false,false,false,false,false,false] (λW=>Fr (λj=>u3.ownBlock=some j) w1 W/\W.cell? ⟨wr.heap.size,0,none⟩=some (.string x.text)/\W.cell? ⟨wr.heap.size,1,none⟩=some (.slice Ap x.tokens.length cp)/\W.cell? ⟨wr.heap.size,2,none⟩=some (.slice Aq x.yomi.length cq)/\W.cell? ⟨wr.heap.size,3,none⟩=some (.string x.pos)) mixed rfl rfl (⟨(Fl w1).drew,HSS.out w1.drew ((Fl w1).drew)⟩) (λhS=>?_);refine WL.go [(0,12),(1,13),(2,14),(3,15),(4,16),(6,18),(7,19),(9,21),(10,22)] ?_;iterate 9 (refine WL.tk (v:=?_) rfl rfl Kr (λ_ _ _ h=>h) (Or.inl ⟨Rf,?_⟩) (by assumption) ?_;rotate_left;(focus (intro w hSw;(try obtain⟨sf,s0,s1,s2,s3⟩:=hSw);go_simp;(try with_reducible rfl)));simp only[Act.put,Sa,Sb1,Sc])
      refine WZ.flowT 2 13 [(5,17,[]),(8,20,[]),(11,23,[(5,17),(8,20)]),(12,24,[(11,23)])]
        [(5,λv W=>strs.R W (λj=>w1.heap.size<=j) x.tokens [v]),(8,λv W=>strs.R W (λj=>w1.heap.size<=j) x.yomi [v]),
         (11,λv W=>∃ p q,v=.agg #[.string x.text,p,q,.string x.pos]/\strs.R W (λj=>w1.heap.size<=j) x.tokens [p]/\strs.R W (λj=>w1.heap.size<=j) x.yomi [q]),
         (12,λv W=>∃ b p q,v=.slice (some ⟨b,0,none⟩) 1 1/\W.heap[b]?=some (.cells #[.string x.text,p,q,.string x.pos] Kn (0,0))/\strs.R W (λj=>w1.heap.size<=j) x.tokens [p]/\strs.R W (λj=>w1.heap.size<=j) x.yomi [q])]
        Kr rfl (λW W' h f=>⟨h.1.ext f,HSS.out W' (h.1.ext f)⟩) ?_ (by assumption) ?_ (λvals W hx hSw hv=>?_)
      · simp only[List.forall_mem_cons]
        exact⟨λv W W' f h=>strs.ext h f,λv W W' f h=>strs.ext h f,λv W W' f ⟨p,q,e,h1,h2⟩=>⟨p,q,e,strs.ext h1 f,strs.ext h2 f⟩,λv W W' f ⟨b,p,q,e,h0,h1,h2⟩=>⟨b,p,q,e,f.heap h0 id,strs.ext h1 f,strs.ext h2 f⟩,λ_ h=>nomatch h⟩
      · simp only[List.forall_mem_cons]
        refine⟨⟨_,rfl,λvals W hSw hD Q' K hK=>?_⟩,⟨_,rfl,λvals W hSw hD Q' K hK=>?_⟩,⟨_,rfl,λvals W hSw hD Q' K hK=>?_⟩,⟨_,rfl,λvals W hSw hD Q' K hK=>?_⟩,λ_ h=>nomatch h⟩
        · obtain⟨sf,s0,s1,s2,s3⟩:=hSw
          simp only[Yc];go_simp;go_wp2_with (go_at_call 101;refine (Qn (strs.keep HX1.out.1 sf (λk _ ho e=>by have:=HL.out k e;omega)) HX1.out.2.2.1.1).mono ?_;rintro e w5 ⟨v,rfl,hr,hx⟩)
          exact hK.out v _ w5 rfl hx (strs.mono (λ_ _ h=>Nt sf.size h) hr)
        · obtain⟨sf,s0,s1,s2,s3⟩:=hSw
          simp only[Yc];go_simp;go_wp2_with (go_at_call 101;refine (Qn (strs.keep HX1.out.2.1 sf (λk _ ho e=>by have:=HL.out k e;omega)) HX1.out.2.2.1.2).mono ?_;rintro e w5 ⟨v,rfl,hr,hx⟩)
          exact hK.out v _ w5 rfl hx (strs.mono (λ_ _ h=>Nt sf.size h) hr)
        · have h5:strs.R W (λj=>w1.heap.size<=j) x.tokens [vals 5]:=hD (5,17) (by simp)
          have h8:strs.R W (λj=>w1.heap.size<=j) x.yomi [vals 8]:=hD (8,20) (by simp);clear hD;simp only[Yc]at hK⊢;generalize vals 5=p at *;generalize vals 8=q at *;obtain⟨Ad,cd,rfl⟩:=Yq h5;obtain⟨Ae,ce,rfl⟩:=Yq h8;go_simp;exact hK.out _ _ W rfl (Fl _) ⟨_,_,rfl,h5,h8⟩
        · have h11:∃ p q,vals 11=.agg #[.string x.text,p,q,.string x.pos]/\strs.R W (λj=>w1.heap.size<=j) x.tokens [p]/\strs.R W (λj=>w1.heap.size<=j) x.yomi [q]:=hD (11,23) (by simp)
          clear hD;simp only[Yc]at hK⊢;generalize vals 11=v at *;obtain⟨p,q,rfl,h5,h8⟩:=h11;obtain⟨Ad,cd,rfl⟩:=Yq h5;obtain⟨Ae,ce,rfl⟩:=Yq h8;go_simp;exact hK.out _ _ _ rfl ((Fl _).alloc _) ⟨_,_,_,rfl,alloc_at _ _,strs.ext h5 ((Fl _).alloc _),strs.ext h8 ((Fl _).alloc _)⟩
      · have h12:∃ b p q,vals 12=.slice (some ⟨b,0,none⟩) 1 1/\W.heap[b]?=some (.cells #[.string x.text,p,q,.string x.pos] Kn (0,0))/\strs.R W (λj=>w1.heap.size<=j) x.tokens [p]/\strs.R W (λj=>w1.heap.size<=j) x.yomi [q]:=hv (12,24,[(11,23)]) (by simp)
        clear hv;simp only[Yc,List.map_cons,List.map_nil,Act.put,Sa,Sb1,Sc];generalize vals 12=v at *;generalize vals 11=v11 at *;generalize vals 8=v8 at *;generalize vals 5=v5 at *;obtain⟨nb,p,q,rfl,h0,h5,h8⟩:=h12;have hW:w1.heap.size<=W.heap.size:=hx.size;have hnb:=(Gs1.1 h0).1;have RKW:RowK tRec Kn u3 (us.take i) w.heap.size W:=(HK.out.1.ext ((Fl w1).drew)).ext hx;have hlow:=RKW.low;refine WZ.one (i:=13) rfl Kr (by decide) (λK hK=>?_);refine RowK.op Rf _ _ 156 Rf x [.string x.text,p,q,.string x.pos] 80 ⟨nb,0,none⟩ Tryz.underlying156 Zlg (by decide) Om Rf Rf RKW (by rw[List.length_take];omega) Om (Gh h0) ⟨[.string x.text],_,rfl,⟨rfl,HX1.out.2.2.2.1⟩,[p],_,rfl,strs.mono (λk _ h=>⟨Om,λe=>by have:=HL.out k e;omega⟩) h5,[q],_,rfl,strs.mono (λk _ h=>⟨Om,λe=>by have:=HL.out k e;omega⟩) h8,rfl,HX1.out.2.2.2.2⟩ ?_;intro v' w6 hR6 hf6 _;refine hK.out _ _ (⟨hSw.1.then hf6,HSS.out _ (hSw.1.then hf6)⟩) (λhSr5_13=>?_);clear hK K;try simp only[Act.put,Sa,Sb1,Sc]
        refine WZ.last rfl Kr Kr (λK hK=>?_);go_simp;refine hK.out _ _ ?_;clear hK K;go_wp2_with fail
        go_roundg (n-(i+1))
        case measure=>omega
        case rel=>exact⟨i+1,v',rfl,by go_num,Om,Om,by rw[HT.out];exact hR6,((HK.out.2.drew).trans hx (λ_ _ e=>e)).trans hf6 (λj hj e=>by have:=HL.out j e;omega)⟩
    · obtain rfl:i=n:=Om
      go_wp2_with fail
      first|go_ret|go_ret2
      refine⟨_,rfl,?_,HR.out.2⟩;have:=HR.out.1;rw[HU.out.2.2,List.take_length]at this;exact this
end
section
open Go.RowKit Go.Sort DT SS TR LT
theorem Zed{τ:Type}{d:Ty τ}{kv:τ->Value}{k:Nat}(hsz:d.sz=k+1)(hd:∀ {w O x cs},d.R w O x cs->∃ rest,cs=kv x::rest){w:World}{O:Nat->Prop} :
  ∀ (xs:List τ) (es:List (List Value)) (t:Nat),es.length=xs.length->(∀ i (_:i<xs.length) (_:i<es.length),d.R w O xs[i] es[i])->∃ ds:List (El τ k),ds.map (·.key)=xs/\ds.map (El.enc kv)=es/\∀ i (h:i<ds.length),ds[i].tag=t+i
 | [],[],_,_,_=>⟨[],rfl,rfl,λi h=>by simp at h⟩
 | x::xs,e::es,t,hl,h=>by
  have h0:=h 0 (by simp) (by simp);simp only[List.getElem_cons_zero]at h0;obtain⟨rest,rfl⟩:=hd h0;have hlen:=d.len h0;obtain⟨ds,h1,h2,h3⟩:=Zed hsz hd xs es (t+1) (by simpa using hl) (λi hi hj=>by have:=h (i+1) (by simpa using hi) (by simpa using hj);simpa using this);refine⟨⟨x,rest,by simp at hlen;omega,λv hv=>d.one h0 v (by simp[hv]),t⟩::ds,by simp[h1],by simp[h2,El.enc],λi hi=>?_⟩
  cases i with
  | zero=>rfl
  | succ i=>simp only[List.getElem_cons_succ];rw[h3 i (by simpa using hi)];omega
theorem Ux{α:Type}(f:α->List Value)(l:List α):l.flatMap f=(l.map f).flatten:=List.flatMap_def
theorem Zfb(us:List GRec)(v:Value)(B:Nat)(w:World)(h:RowK tRec Kn v us B w)(hl:us.length<=1000) :
  Calls Tryz.prog 185 #[v,.func (.func 186) #[] #[]] w λe w'=>e=.returned (.tuple #[])/\RowK tRec Kn v (Z6 Vd us) B w'/\Fr (λj=>v.ownBlock=some j) w w':=by
 obtain⟨es,h0,ho,h1⟩:=h;obtain⟨ds,e1,e2,e3⟩:=Zed (kv:=L6) (k:=3) rfl (λ{w O x cs} hr=>by obtain⟨p,q,rfl,_⟩:=Pt hr;exact⟨_,rfl⟩) us es 0 h0 h1;have hdl:ds.length=us.length:=by rw[<- e1,List.length_map]
 rw[<- e2,<- Ux]at ho;refine (Zfc B Kn us.length v ds w ho hdl Om (λi hi=>by rw[e3 i hi];omega)).mono ?_;rintro e w' ⟨rfl,ho',hf⟩;have hk:(Z6 (λx y:El GRec 3=>Vd x.key y.key) ds).map (·.key)=Z6 Vd us:=by rw[<- e1];exact M1 Vd (·.key) ds
 have hsl:(Z6 Vd us).length=us.length:=(Zy _ _).length_eq;refine⟨rfl,⟨(Z6 (λx y:El GRec 3=>Vd x.key y.key) ds).map (El.enc L6),by rw[<- hk,List.length_map,List.length_map],?_,λi hi hj=>?_⟩,hf⟩
 ·rw[<- Ux,hsl];exact ho'
 ·have hi':i<(Z6 (λx y:El GRec 3=>Vd x.key y.key) ds).length:=by rw[List.length_map]at hj;exact hj
  have hm:=(Zy (λx y:El GRec 3=>Vd x.key y.key) ds).mem_iff.1 (List.getElem_mem hi');obtain⟨j,hj2,ej⟩:=List.getElem_of_mem hm;have r:=h1 j Om Om
  have k1:us[j]' Om=(Z6 Vd us)[i]:=by
   have a:us[j]' Om=ds[j].key:=(by simp[<- e1]);have b:(Z6 Vd us)[i]=(Z6 (λx y:El GRec 3=>Vd x.key y.key) ds)[i].key:=(by simp[<- hk]);rw[a,b,ej]
  have k2:es[j]' Om=((Z6 (λx y:El GRec 3=>Vd x.key y.key) ds).map (El.enc L6))[i]:=by
   rw[List.getElem_map,<- ej];simp[<- e2]
  rw[k1,k2]at r;exact tRec.keep r hf (λk _ q e=>q.2 e)
abbrev TUC:TypeId:=231
def Zg7:Ty GRec:=.iso (.pair strs (.pair strs .str)) (λu=>(u.tokens,u.yomi,u.pos))
theorem Zmo:Pq Tryz.prog TUC 3 64:=Qg Kr
theorem N6:Pq Tryz.prog 9 1 16:=Qg Kr
def Lr(ku:Nat)(us:List GRec)(H U:Nat)(w:World):Prop:=(H<=ku/\ku<U)/\∃ v,w.cell? ⟨ku,2,none⟩=some v/\(Ty.slice Zg7).R w (λj=>H<=j/\j<U) us [v]
theorem Lr.keep{ku H U:Nat}{us:List GRec}{S:Nat->Prop}{w w':World}(h:Lr ku us H U w)(f:Fr S w w')(hS:∀ b,H<=b->b<U->¬ S b):Lr ku us H U w':=by
 obtain⟨h0,v,h1,h2⟩:=h;exact⟨h0,v,f.cell h1 (hS _ h0.1 h0.2),(Ty.slice Zg7).keep h2 f (λk _ q=>hS k q.1 q.2)⟩
theorem RowK.texts{T:TypeId}{v:Value}{xs:List ByteArray}{B:Nat}{w:World}(h:RowK Ty.str T v xs B w):w.ownsRow B T 1 v xs.length (xs.map Value.string):=by
 obtain⟨es,h0,ho,h1⟩:=h
 have:es.flatten=xs.map Value.string:=by
  have:es=xs.map λx=>[Value.string x]:=by
   apply List.ext_getElem (by rw[h0,List.length_map]);intro i a b;rw[List.getElem_map];exact (h1 i (by rw[List.length_map]at b;exact b) a).1
  rw[this,<- Ux];clear this h0 ho h1
  induction xs with
  | nil=>rfl
  | cons x l ih=>rw[List.flatMap_cons,ih];rfl
 rw[<- this];exact ho
theorem Zd0{w:World}{d:Ty ByteArray}{T:TypeId}{n B:Nat}{g:Nat}{cs:Array Value}(hd:d.sz=1)(h:w.heap[g]?=some (.cells cs T (0,0)))(hs:cs.size=n)(hn:n<=1000000)(hB:B<=g):RowK d T (.slice (some ⟨g,0,none⟩) 0 n) ([]:List ByteArray) B w:=by
 refine⟨[],rfl,⟨by simp,.inr ⟨g,n,cs,rfl,hB,h,Nat.zero_le _,by unfold maxLen;omega,by rw[hd,hs];omega,by simp⟩⟩,λi h=>by simp at h⟩
def tV3:Ty (Value×Value×ByteArray) where
 sz:=3
 R:=λ_ _ x cs=>cs=[x.1,x.2.1,.string x.2.2]/\x.1.oneCell'=true/\x.2.1.oneCell'=true
 len:=λh=>by rw[h.1];rfl
 one:=λh u hu=>by
  rw[h.1]at hu;simp only[List.mem_cons,List.mem_nil_iff,or_false]at hu;rcases hu with rfl|rfl|rfl
  ·exact h.2.1
  ·exact h.2.2
  ·rfl
 mono:=λ_ h=>h
 move:=λ_ _ h=>h
theorem Zjj{ws:List ByteArray}(h:ws.Pairwise (λa b=>Vm a b=true)):Asc ws:=h.imp (λ{a b} q=>O4 _ _ (λz=>by
 have:=bytesLt_swo.trans _ _ _ q ((Xn b a).2 ((Zc4 _ _).1 z));rw[bytesLt_swo.irrefl]at this
 cases this))
theorem RowK.keepV{α:Type}{d:Ty α}{T:TypeId}{v:Value}{xs:List α}{B:Nat}{w w':World}{S:Nat->Prop}(h:RowK d T v xs B w)(f:Fr S w w')(hS:∀ j,v.ownBlock=some j->¬ S j)(hd:∀ {O x cs},d.R w O x cs->d.R w' O x cs):RowK d T v xs B w':=by
 obtain⟨es,h0,ho,h1⟩:=h;exact⟨es,h0,Zs ho f hS,λi hi hj=>hd (h1 i hi hj)⟩
theorem Zhf{α β:Type}{d:Ty α}{d':Ty β}{w:World}{O:Nat->Prop}{xs:List α}{ys:List β}{v:Value}(h:(Ty.slice d).R w O xs [v])(hl:xs.length=ys.length)(hz:d.sz=d'.sz)(hr:∀ i (hi:i<xs.length) (hj:i<ys.length) cs,d.R w O xs[i] cs->d'.R w O ys[i] cs):(Ty.slice d').R w O ys [v]:=by
 obtain⟨A,c,e,h1,h2,h3,h4⟩:=h;refine⟨A,c,by rw[e,hl],Om,h2,Om,?_⟩;rcases h4 with rfl|⟨b,o,rfl,hb,hlt,hc⟩
 ·exact .inl (List.eq_nil_of_length_eq_zero hl.symm)
 ·exact .inr ⟨b,o,rfl,hb,hlt,λi hi=>by
   obtain⟨cs,a1,a2⟩:=hc i Om
   exact⟨cs,hr i Om hi cs a1,λj hj=>by rw[<- hz];exact a2 j hj⟩⟩
theorem Zly{α:Type}{d:Ty α}{w:World}{O:Nat->Prop}{A:Option Addr}{xs:List α}(h:d.At w O A xs):d.At w (λj=>O j/\j<w.heap.size) A xs:=by
 refine⟨h.1,h.2.imp id ?_⟩;rintro⟨b,o,e,hb,hl,hc⟩
 exact⟨b,o,e,⟨hb,hl⟩,hl,λi hi=>by
  obtain⟨cs,h1,h2⟩:=hc i hi
  exact⟨cs,d.mono (λk hk q=>⟨q,hk⟩) h1,h2⟩⟩
theorem Zc8(w:World)(o:Obj)(cs:List Value)(T:TypeId):∀ j u,cs[j]?=some u->((w.alloc o).alloc (.cells cs.toArray T)).cell? ((⟨w.heap.size+1,0,none⟩:Addr).add j)=some u:=λj u h=>by
 have:=Zc9 (w.alloc o) cs T j u h;rw[Za]at this;exact this
theorem Zhr{w:World}{O:Nat->Prop}{A:Option Addr}:∀ {us:List GRec},tRec.At w O A us->∃ es:List (Value×Value×ByteArray),es.length=us.length/\∀ i (hi:i<us.length) (hj:i<es.length),strs.R w O us[i].tokens [es[i].1]/\strs.R w O us[i].yomi [es[i].2.1]/\es[i].2.2=us[i].pos/\us[i].text.size<=9223372036854775807/\us[i].pos.size<=9223372036854775807 /\
  ∃ b o,A=some ⟨b,o,none⟩/\b<w.heap.size/\w.cell? ⟨b,o+i*4,none⟩=some (.string us[i].text)/\w.cell? ⟨b,o+i*4+1,none⟩=some es[i].1/\w.cell? ⟨b,o+i*4+2,none⟩=some es[i].2.1/\w.cell? ⟨b,o+i*4+3,none⟩=some (.string us[i].pos):=by
 intro us h
 have hall:∀ i:Nat,∃ e:Value×Value×ByteArray,∀ (hi:i<us.length),strs.R w O us[i].tokens [e.1]/\strs.R w O us[i].yomi [e.2.1]/\e.2.2=us[i].pos/\us[i].text.size<=9223372036854775807/\us[i].pos.size<=9223372036854775807 /\
  ∃ b o,A=some ⟨b,o,none⟩/\b<w.heap.size/\w.cell? ⟨b,o+i*4,none⟩=some (.string us[i].text)/\w.cell? ⟨b,o+i*4+1,none⟩=some e.1/\w.cell? ⟨b,o+i*4+2,none⟩=some e.2.1/\w.cell? ⟨b,o+i*4+3,none⟩=some (.string us[i].pos):=by
  intro i;by_cases hi:i<us.length
  ·obtain⟨b,o,p,q,rfl,_,hbl,h1,h2,h3,h4,e0,e1,e2,e3⟩:=Eu h i hi;exact⟨(p,q,us[i].pos),λ_=>⟨h1,h2,rfl,h3,h4,b,o,rfl,hbl,e0,e1,e2,e3⟩⟩
  ·exact⟨(undef,undef,.empty),λq=>absurd q hi⟩
 obtain⟨f,hf⟩:=Classical.axiomOfChoice hall;refine⟨(List.range us.length).map f,by simp,λi hi hj=>?_⟩;have e:((List.range us.length).map f)[i]=f i:=by simp
 rw[e];exact hf i hi
def Jy(ss:List GRec):Nat->ByteArray
 | 0=>⟨#[]⟩
 | k+1=>(ss.getD k default).text
theorem Zkz{ss:List GRec}(h:Zde ss)(i:Nat)(hi:i<ss.length):((Jy ss i).toList==ss[i].text.toList)=false:=by
 rw[beq_eq_false_iff_ne];intro e;have e:=toList_inj e
 cases i with
 | zero=>exact (Y4 (h.plain _ (List.getElem_mem hi))).2.1 e.symm
 | succ k =>
  have hk:k<ss.length:=Om
  have:=(List.pairwise_iff_getElem.1 h.asc) k (k+1) (by simpa using hk) (by simpa using hi) Om;rw[List.getElem_map,List.getElem_map]at this;replace e:(ss.getD k default).text=ss[k+1].text:=e;rw[List.getD_eq_getElem?_getD,Ge hk,Option.getD_some]at e;rw[e,bytesLt_swo.irrefl]at this;cases this
theorem Zaf(us:List GRec)(v:Value)(B:Nat)(w0 w:World)(h:RowK tRec Kn v us B w)(hok:Zde (Z6 Vd us))(hT:Tbs w0)(hx:Zf w0 w)(hB:w0.heap.size<=B)(hBw:B<=w.heap.size) :
  Calls Tryz.prog 153 #[v] w λe w'=>∃ ku,e=.returned (.tuple #[.pointer (some ⟨ku,0,none⟩),.nilIface])/\V7 ku ((Z6 Vd us).map GRec.text) B w'.heap.size w'/\Lr ku (Z6 Vd us) B w'.heap.size w'/\Fr (λj=>v.ownBlock=some j) w w':=by
 have hsl:(Z6 Vd us).length=us.length:=(Zy _ _).length_eq;have C1:=Zfb us v B w h (by have:=hok.len;omega);have hlow:=h.low;obtain⟨A,c,hv⟩:=h.own;obtain⟨ss,hss⟩:∃ ss,ss=Z6 Vd us:=⟨_,rfl⟩;rw[<- hss]at hsl hok C1⊢;clear h hss;obtain⟨n,hn⟩:∃ n,n=us.length:=⟨_,rfl⟩;rw[<- hn]at hsl hv;have hln:=hok.len;have hp:=hok.pos;rw[hsl]at hln hp;have HO:=Hd (Ai1 hok (Ai1 hT (Ai1 hx (Ai1 hB (Ai1 hsl hlow)))));subst hv;clear hok hT hx hB hn hlow;obtain⟨is,his,hs0,hs1,hs2⟩:=info_parts U7
 have hmk:∀ W:World,(Instr.makeSlice 34 (.int .i64 0) (.int .i64 (n:Int))).run Tryz.prog W=.ok (.slice (some ⟨W.heap.size,0,none⟩) 0 n) (W.alloc (.cells (madeCells #[.string ⟨#[]⟩] n) 9)):=λW=>by
  have:=run_make (P:=Tryz.prog) W 34 9 is _ Tryz.underlying34 his hs0 .i64 .i64 0 n Om Om (by rw[hs2];omega) Om;rw[hs1]at this;simpa [Value.cells] using this
 go_enter Tryz.func153,Tryz.ntmps153
 go_wp2_with (first|(go_at_call 185;refine C1.mono ?_;rintro e w1 ⟨rfl,hr,hf⟩;have H1:=Hd (Ai1 hr hf);clear hr hf C1)|fail)
 obtain⟨N,hN⟩:∃ N,N=w1.heap.size:=⟨_,rfl⟩;rw[<- hN];have hNw:w.heap.size<=N:=by rw[hN];exact H1.out.2.size
 have HS:=H1.out.1.slice;obtain⟨A',c',e,_,_,hat⟩:=HS;simp only[List.cons.injEq,Value.slice.injEq,and_true]at e;obtain⟨rfl,-,rfl⟩:=e;obtain⟨es,hes,hraw⟩:=Zhr (Zly hat);have HAT:=Hd (Ai1 hes hraw);have hBN:B<=N:=Om
 have X1:Zf w1 ((w1.alloc (.cells (madeCells #[.string ⟨#[]⟩] n) 9)).alloc (.cells #[.slice none 0 0,.map none,.slice none 0 0] 234)):=((Fl w1).alloc _).alloc _;have K1:((w1.alloc (.cells (madeCells #[.string ⟨#[]⟩] n) 9)).alloc (.cells #[.slice none 0 0,.map none,.slice none 0 0] 234)).heap[N]?=some (.cells (madeCells #[.string ⟨#[]⟩] n) 9 (0,0)):=((Fe _).alloc _).heap (alloc_at' _ _ hN) id;have K2:((w1.alloc (.cells (madeCells #[.string ⟨#[]⟩] n) 9)).alloc (.cells #[.slice none 0 0,.map none,.slice none 0 0] 234)).heap[N+1]?=some (.cells #[.slice none 0 0,.map none,.slice none 0 0] 234 (0,0)):=alloc_at' _ _ (by rw[Za,hN]);have X0:Zf w0 w1:=HO.out.2.2.1.trans H1.out.2 (λj hj e=>by have:=HO.out.2.2.2.2.2 j e;have:=HO.out.2.2.2.1;omega);have HX:=Hd (Ai1 X0 hN);have mk:(madeCells #[.string ⟨#[]⟩] n).size=n:=by simp[madeCells]
 go_loopg [4,5,20] n (λg1 v4 v5 v20 wr=>∃ (i:Nat) (u v6:Value),v5=u/\v20=.int .i64 (i:Int)/\i<=n/\n<=i+g1/\v4=.string (Jy ss i)/\Hid (RowK Ty.str 9 u ((ss.take i).map GRec.text) N wr/\RowK tV3 TUC v6 (es.take i) N wr/\wr.heap[N+1]?=some (.cells #[.slice none 0 0,.map none,v6] 234 (0,0))/\(∀ j,u.ownBlock=some j->v6.ownBlock≠some j/\j≠N+1)/\(∀ j,v6.ownBlock=some j->N<=j/\j≠N+1)/\Zf w1 wr))
 case atStart=>exact⟨0,_,.slice none 0 0,rfl,rfl,Om,Om,rfl,Zd0 rfl K1 mk Om (Nl _),RowK.nil _,K2,(λj e=>by simp[Value.ownBlock]at e;subst e;exact⟨by simp[Value.ownBlock],Om⟩),(λj e=>by simp[Value.ownBlock]at e),X1⟩
 case round =>
  clear X1 K1 K2 mk X0 hN hat;obtain⟨i,u,v6,rfl,rfl,hi,hg,rfl,HR⟩:=hrel;by_cases hlt:i<n
  ·have hlz:(i:Int)<(n:Int):=Om;have hz0:(0:Int)<=(i:Int):=Om;have hil:i<ss.length:=Om;obtain⟨hp1,hq1,hpe,hs1',hs2',b,o,rfl,hbl,e0,e1,e2,e3⟩:=HAT.out.2 i hil (by rw[HAT.out.1];exact hil);have q0:=HR.out.2.2.2.2.2.cell e0 id;have q1:=HR.out.2.2.2.2.2.cell e1 id;have q2:=HR.out.2.2.2.2.2.cell e2 id;have q3:=HR.out.2.2.2.2.2.cell e3 id;have HM:=List.getElem_mem hil;have htk:=HO.out.1.toks _ HM
   have CT:Hid (∀ W,Zf w0 W->Calls Tryz.prog 187 #[.string ss[i].text] W λe w'=>e=.returned (.string ss[i].text)/\Zf W w'):=λW f=>by
    have:=Zgy ss[i].text W (by have:=HO.out.1.size _ HM;omega) (HO.out.2.1.ext f);rw[HO.out.1.trim _ HM]at this;exact this
   have hpv:((Jy ss i).toList==ss[i].text.toList)=false:=Zkz HO.out.1 i hil;have hie:i<es.length:=by rw[HAT.out.1];exact hil
   have HT:Hid (ss.take (i+1)=ss.take i++[ss[i]]/\es.take (i+1)=es.take i++[es[i]]/\Jy ss (i+1)=ss[i].text):=⟨List.take_succ_eq_append_getElem hil,List.take_succ_eq_append_getElem hie,by show (ss.getD i default).text=_;rw[List.getD_eq_getElem?_getD,Ge hil];rfl⟩;have HPQ:=Hd (Ai1 hp1 (Ai1 hq1 (Ai1 hs1' hs2')));obtain⟨Ap,cp,z1⟩:=Yq hp1;obtain⟨Aq,cq,z2⟩:=Yq hq1;rw[z1]at q1;rw[z2]at q2;have hk0:((ss[i].tokens.length:Int)==0)=false:=beq_eq_false_iff_ne.2 Om;have hk1:((ss[i].tokens.length:Int) != (ss[i].yomi.length:Int))=false:=bne_eq_false_iff_eq.2 Om;clear e0 e1 e2 e3 HM htk hs1' hs2' hes hraw;have HZ:=Hd (Ai1 z1 (Ai1 z2 hpe));clear z1 z2 hpe hp1 hq1;generalize hxx:ss[i]=x at *;generalize Jy ss i=pv at *;obtain⟨ev,hev⟩:∃ ev,ev=es[i]:=⟨_,rfl⟩;rw[<- hev]at HT HPQ HZ;obtain⟨A6,c6,e6⟩:=HR.out.2.1.own;rw[List.length_take,Nat.min_eq_left Om]at e6;subst e6;have HL:=Hd (Ai1 HR.out.1.low HR.out.2.1.low);have hwl:N+1<wr.heap.size:=(Gs1.1 HR.out.2.2.1).1;clear hev hxx;obtain⟨rb,hrb⟩:∃ rb,rb=wr.heap.size:=⟨_,rfl⟩;go_upto_region 8 with fail
   have hbx:=alloc_at wr (.cells #[.string x.text,.slice Ap x.tokens.length cp,.slice Aq x.yomi.length cq,.string x.pos] Kn);have XA:Zf wr (wr.alloc (.cells #[.string x.text,.slice Ap x.tokens.length cp,.slice Aq x.yomi.length cq,.string x.pos] Kn)):=(Fl _).alloc _;rw[<- hrb]at hbx⊢;have HXA:=Hd (Ai1 XA hrb);clear XA q0 q1 q2 q3;generalize wr.alloc _=wa at *;have b0:=cell_of hbx 0 (.string x.text) rfl;have HBX:=Hd hbx;have lb0:=lt_of_cell b0;clear hbx hrb
   go_wp2_with (first
    | (go_at_call 187;refine (CT.out _ (HX.out.1.trans (HR.out.2.2.2.2.2.trans HXA.out.1 (λ_ _ e=>e)) (λ_ _ e=>e))).mono ?_;rintro e w5 ⟨rfl,hx5⟩;have hb5:=hx5.heap HBX.out id;have F5:=Hd (Ai1 (HXA.out.1.ext hx5) hb5);have hl5:=F5.out.1.size;clear hx5 hb5)
    | (at_builtin;refine RowK.lst (v:=u5) rfl _ _ 34 rfl x.text [.string x.text] 16 ⟨w5.heap.size,0,none⟩ Tryz.underlying34 N6 (by decide) Om rfl rfl (HR.out.1.ext (F5.out.1.alloc _)) (by rw[List.length_map,List.length_take];omega) (by simp;omega) (Z0 _ _) ⟨rfl,HPQ.out.2.2.1⟩ ?_;intro u' w6 hR6 hf6 ha6;have hb6:=hf6.heap (((Fe w5).alloc _).heap F5.out.2 id) (λe=>by have:=(HL.out.1 _ e).2;have:=HXA.out.2;omega);have hk6:=hf6.heap ((F5.out.1.alloc _).heap HR.out.2.2.1 id) (λe=>(HR.out.2.2.2.1 _ e).2 rfl);have c1:=cell_of hb6 1 (.slice Ap x.tokens.length cp) rfl;have c2:=cell_of hb6 2 (.slice Aq x.yomi.length cq) rfl;have c3:=cell_of hb6 3 (.string x.pos) rfl;have d2:=cell_of hk6 2 (.slice A6 i c6) rfl;have lc:rb<w6.heap.size:=lt_of_cell c1;have ld:N+1<w6.heap.size:=lt_of_cell d2;have H6:=Hd (Ai1 hR6 (Ai1 (hf6.trans (Fl w6) (λ_ _ e=>e)) (Ai1 ha6 hk6)));clear hR6 hf6 ha6 hb6 hk6)
    | (at_builtin;refine RowK.lst (v:=.slice A6 i c6) rfl _ _ 232 rfl ev [.slice Ap x.tokens.length cp,.slice Aq x.yomi.length cq,.string x.pos] 64 ⟨w6.heap.size+1,0,none⟩ Tryz.underlying232 Zmo (by decide) Om rfl rfl ((RowK.keepV (HR.out.2.1.ext (F5.out.1.alloc _)) H6.out.2.1 (λj e q=>(HR.out.2.2.2.1 j q).1 e) (λh=>h)).ext (((Fl w6).alloc _).alloc _)) (by rw[List.length_take];omega) (by simp;omega) (Zc8 _ _ _ _) ⟨by rw[HZ.out.1,HZ.out.2.1,HZ.out.2.2],by rw[HZ.out.1];rfl,by rw[HZ.out.2.1];rfl⟩ ?_;intro v7 w7 hR7 hf7 ha7;obtain⟨A7,c7,e7⟩:=hR7.own;rw[List.length_append,List.length_take,Nat.min_eq_left Om]at e7;subst e7;have hk7:=hf7.heap ((((Fe w6).alloc _).alloc _).heap H6.out.2.2.2 id) (λe=>(HR.out.2.2.2.2.1 _ e).2 rfl);have d7:=cell_of hk7 2 (.slice A6 i c6) rfl;have f7:=Zi hk7 2;have l7:N+1<w7.heap.size:=lt_of_cell d7;have H7:=Hd (Ai1 hR7 (Ai1 hf7 (Ai1 ha7 hk7)));clear hR7 hf7 ha7 hk7)
    | fail)
   go_roundg (n-(i+1))
   case measure=>omega
   case rel =>
    refine⟨i+1,u',.slice A7 (i+1) c7,rfl,by go_num,Om,Om,by rw[HT.out.2.2],?_⟩
    have hU:∀ j,u'.ownBlock=some j->(u5.ownBlock=some j/\j<wr.heap.size)\/j=w5.heap.size+1:=λj e=>by
     rcases H6.out.2.2.1 with z|z
     ·rw[z]at e;exact .inl ⟨e,(HL.out.1 j e).2⟩
     ·rw[z,Za]at e;injection e with e;exact .inr e.symm
    have hV:∀ j,(Value.slice A7 (i+1) c7).ownBlock=some j->((Value.slice A6 i c6).ownBlock=some j/\j<wr.heap.size)\/j=w6.heap.size+2:=λj e=>by
     rcases H7.out.2.2.1 with z|z
     ·rw[show (Value.slice A7 (i+1) c7).ownBlock=_ from z]at e;exact .inl ⟨e,(HL.out.2 j e).2⟩
     ·rw[show (Value.slice A7 (i+1) c7).ownBlock=_ from z,Za,Za]at e;injection e with e;exact .inr e.symm
    have hs6:w5.heap.size+1<=w6.heap.size:=by have:=H6.out.2.1.size;rw[Za]at this;exact this
    have F7:Fr (λj=>(Value.slice A6 i c6).ownBlock=some j) w6 w7:=Fr.trans (S:=λj=>(Value.slice A6 i c6).ownBlock=some j) (((Fl w6).alloc _).alloc _) H7.out.2.1 (λ_ _ e=>e);have F8:Fr (λj=>j=N+1) w7 (w7.setCell ⟨N+1,2,none⟩ (.slice A7 (i+1) c7)):=(Fl w7).setCell _ _ (λ_=>rfl)
    have hUn:∀ j,u'.ownBlock=some j->j≠N+1:=λj e=>by
     rcases hU j e with ⟨z,_⟩|z
     ·exact (HR.out.2.2.2.1 j z).2
     ·omega
    have hVn:∀ j,(Value.slice A7 (i+1) c7).ownBlock=some j->N<=j/\j≠N+1:=λj e=>by
     rcases hV j e with ⟨z,_⟩|z
     ·exact HR.out.2.2.2.2.1 j z
     ·omega
    refine⟨?_,?_,Yk H7.out.2.2.2 2 _,λj e=>⟨λq=>?_,hUn j e⟩,hVn,?_⟩
    ·rw[HT.out.1,List.map_append];refine RowK.keepV (RowK.keepV H6.out.1 F7 (λj e q=>?_) (λh=>h)) F8 hUn (λh=>h);rcases hU j e with ⟨z,_⟩|z
     ·exact (HR.out.2.2.2.1 j z).1 q
     ·have:=(HL.out.2 j q).2;omega
    ·rw[HT.out.2.1];exact RowK.keepV H7.out.1 F8 (λj e=>(hVn j e).2) (λh=>h)
    ·rcases hU j e with ⟨z,hz⟩|z<;>rcases hV j q with ⟨y,hy⟩|y
     ·exact (HR.out.2.2.2.1 j z).1 y
     ·omega
     ·omega
     ·omega
    ·have hN1:N=w1.heap.size:=HX.out.2;have E5:Zf w1 _:=HR.out.2.2.2.2.2.trans (F5.out.1.alloc (.cells #[.string x.text] 9)) (λ_ _ e=>e)
     have E6:Zf w1 w6:=E5.trans H6.out.2.1 (λj hj e=>by
      have hj2:u5.ownBlock=some j:=e
      have:=(HL.out.1 j hj2).1;omega)
     have E7:Zf w1 w7:=E6.trans F7 (λj hj e=>by have:=(HL.out.2 j e).1;omega);exact E7.trans F8 (λj hj e=>Om)
  ·obtain rfl:i=n:=Om
   have HRR:=HR.out.1.texts;have htk:ss.take i=ss:=by rw[<- hsl];exact List.take_length
   have hte:es.take i=es:=by rw[<- hsl,<- hes];exact List.take_length
   rw[htk,List.length_map]at HRR;obtain⟨A6,c6,e6⟩:=HR.out.2.1.own;rw[hte,hes,hsl]at e6;subst e6;have CI:=Hd (Ia (ss.map GRec.text) u5 ss.length wr (by rw[List.length_map]) (Sn HRR (Nat.zero_le _)) (Zjj HO.out.1.asc) (λx hx=>by obtain⟨u,hu,rfl⟩:=List.mem_map.1 hx;exact (Y4 (HO.out.1.plain u hu)).2.1) (by rw[List.length_map];omega) (λx hx=>by obtain⟨u,hu,rfl⟩:=List.mem_map.1 hx;exact (Y4 (HO.out.1.plain u hu)).1) HO.out.1.sum);clear HRR hlt
   go_wp2_with (first
    | (go_at_call 184;refine CI.out.mono ?_;rintro e w2 ⟨hx2,g,m,mb,rfl,hg2,hm2,hi2⟩;have hk2:=hx2.heap HR.out.2.2.1 id;have d0:=cell_of hk2 0 (.slice none 0 0) rfl;have d1:=cell_of hk2 1 (.map none) rfl;have ff0:=Zi hk2 0;have ff1:=Zi hk2 1;have ld:N+1<w2.heap.size:=lt_of_cell d0;have H2:=Hd (Ai1 hx2 (Ai1 hg2 (Ai1 hm2 (Ai1 hi2 hk2))));clear hx2 hg2 hm2 hi2 hk2)
    | fail)
   first|go_ret|go_ret2
   obtain⟨W,hW⟩:∃ W,W=(((w2.setCell ⟨N+1,0,none⟩ (.slice (some ⟨g,0,none⟩) m m)).setCell ⟨N+1,1,none⟩ (.map (some mb))).alloc (.cells #[.slice (some ⟨g,0,none⟩) m m,.map (some mb)] 219)):=⟨_,rfl⟩;have F:Fr (λj=>j=N+1) w2 W:=by rw[hW];exact (((Fr.refl (λj=>j=N+1) w2).setCell ⟨N+1,0,none⟩ _ (λ_=>rfl)).setCell ⟨N+1,1,none⟩ _ (λ_=>rfl)).alloc _
   have hkW:W.heap[N+1]?=some (.cells #[.slice (some ⟨g,0,none⟩) m m,.map (some mb),.slice A6 i c6] 234 (0,0)):=by
    rw[hW];exact ((Fe _).alloc _).heap (Yk (Yk H2.out.2.2.2.2 0 _) 1 _) id
   rw[<- hW];have hN1:N=w1.heap.size:=HX.out.2;have hwl:N+1<wr.heap.size:=(Gs1.1 HR.out.2.2.1).1;have lW:N+1<W.heap.size:=(Gs1.1 hkW).1;have XW:Zf w1 W:=(HR.out.2.2.2.2.2.trans H2.out.1 (λ_ _ e=>e)).trans F (λj hj e=>Om);have hgl:=H2.out.2.1;have hml:=H2.out.2.2.1;obtain⟨g1,g2⟩:g<w2.heap.size/\mb<w2.heap.size:=H2.out.2.2.2.1.lt;have hsW:=F.size;refine⟨N+1,rfl,⟨g,m,mb,cell_of hkW 0 _ rfl,cell_of hkW 1 _ rfl,H2.out.2.2.2.1.keep F Om Om,Om,Om,Om⟩,⟨Om,_,cell_of hkW 2 _ rfl,?_⟩,?_⟩
   ·have hV:RowK tV3 TUC (.slice A6 i c6) es N W:=by
     have:=RowK.keepV (HR.out.2.1.ext H2.out.1) F (λj e=>(HR.out.2.2.2.2.1 j e).2) (λh=>h);rw[hte]at this;exact this
    refine Zhf ((Ty.slice tV3).mono (λk hk q=>⟨Om,hk⟩) hV.slice) hes rfl (λk hk hj cs hc=>?_);obtain⟨h1,h2,h3,h4,h5,_⟩:=HAT.out.2 k hj hk;obtain⟨e1,_,_⟩:=hc;refine⟨[es[k].1],[es[k].2.1,.string ss[k].pos],by rw[e1,h3];rfl,?_,[es[k].2.1],[.string ss[k].pos],rfl,?_,⟨rfl,h5⟩⟩
    ·exact strs.mono (λj hj q=>⟨q.1,hj⟩) (strs.ext h1 XW)
    ·exact strs.mono (λj hj q=>⟨q.1,hj⟩) (strs.ext h2 XW)
   ·exact H1.out.2.ext XW
end
section
open Go.RowKit DT SS TR LT
theorem V7.low{ku H H' U:Nat}{ks:List ByteArray}{w:World}(h:V7 ku ks H U w)(h1:H'<=H):V7 ku ks H' U w:=by
 obtain⟨g,n,mb,a,b,c,d,e,f⟩:=h;exact⟨g,n,mb,a,b,c,Om,Om,Om⟩
theorem Lr.up{ku H H' U U':Nat}{us:List GRec}{w:World}(h:Lr ku us H U w)(h1:H'<=H)(h2:U<=U'):Lr ku us H' U' w:=by
 obtain⟨a,v,b,c⟩:=h;exact⟨Om,v,b,(Ty.slice Zg7).mono (λk _ q=>⟨Om,Om⟩) c⟩
def tV1:Ty Value where
 sz:=1
 R:=λ_ _ x cs=>cs=[x]/\x.oneCell'=true
 len:=λh=>by rw[h.1];rfl
 one:=λh u hu=>by
  rw[h.1]at hu;rw[List.mem_singleton.1 hu];exact h.2
 mono:=λ_ h=>h
 move:=λ_ _ h=>h
theorem Zd5:Pq Tryz.prog 285 1 8:=Qg Kr
theorem RowK.vals{T:TypeId}{A:Option Addr}{n c:Nat}{xs:List Value}{B:Nat}{w:World}(h:RowK tV1 T (.slice A n c) xs B w):∀ j (_:j<xs.length),∃ b o,A=some ⟨b,o,none⟩/\b<w.heap.size/\w.cell? ⟨b,o+j,none⟩=some xs[j]:=by
 intro j hj;obtain⟨A',c',e,_,_,_,hat⟩:=h.slice;simp only[List.cons.injEq,Value.slice.injEq,and_true]at e;obtain⟨rfl,-,rfl⟩:=e;rcases hat with rfl|⟨b,o,rfl,_,hb,hc⟩
 ·simp at hj
 ·obtain⟨cs,⟨rfl,_⟩,h2⟩:=hc j hj;have:=h2 0 (by simp);have e:o+j*tV1.sz+0=o+j:=by show o+j*1+0=_;omega
  exact⟨b,o,rfl,hb,by rw[<- e];exact this⟩
def Jd(d:Zg):List GRec:=Z6 Vd d.user
abbrev Zak(d:Zg):List ByteArray:=(Jd d).map GRec.text
theorem Gq{us:List GRec}(h:Zde us):Yz (us.map GRec.text) :=
 ⟨Zjj h.asc,λx hx=>by obtain⟨u,hu,rfl⟩:=List.mem_map.1 hx;exact h.plain u hu,by rw[List.length_map];exact h.len⟩
theorem Zby(d:Zg)(cs:List Value)(O:Nat->Prop)(om:Bool)(w:World)(h:tDict.R w O d cs)(hT:Tbs w)(hd:I4 d)(hr:Zm d=true)(hu:d.hasUser=true)(hok:Zde (Jd d))(hf:∀ u∈d.user,u.tokens.length<=2147483647/\u.yomi.length<=2147483647) :
  Calls Tryz.prog 122 #[.agg cs.toArray,.bool om] w λe w'=>∃ tk kd H U ku,e=.returned (.tuple #[.pointer (some ⟨tk,0,none⟩),.int .i64 0])/\Zej d (some (ku,Zak d)) om tk kd H U w'/\Lr ku (Jd d) H U w'/\w.heap.size<=H/\Zf w w':=by
 have H:=Hd (Ai1 h hT);obtain⟨A1,c1,A2,c2,A3,c3,A4,c4,A5,c5,A6,c6,A7,c7,A8,c8,rfl,h1,h2,h3,h4,h5,h6,h7,h8,_⟩:=Yy h;have HA:=Hd h8.2.2;clear h hT h1 h2 h3 h4 h5 h6 h7 h8;rw[hu]at H⊢;have HD:=Hd (Ai1 hd (Ai1 hr (Ai1 hu (Ai1 hok hf))));have hul:d.user.length<=1000:=by have:=hok.len;unfold Jd at this;rwa[(Zy _ _).length_eq]at this
 clear hd hr hu hok hf;go_enter Tryz.func122,Tryz.ntmps122
 go_upto_region 10 with (first
  | (go_at_call 151;refine (O7 d _ O _ (tDict.ext H.out.1 ((Fl w).alloc _)) (H.out.2.u8.ext ((Fl w).alloc _)) HD.out.1 HD.out.2.1).mono ?_;rintro e w1 ⟨kd,U,rfl,hx,hy⟩;have b9:w1.cell? ⟨w.heap.size,9,none⟩=some (.bool true):=hy.cell (Zb (alloc_at _ _) 9 _ rfl) id;have b10:w1.cell? ⟨w.heap.size,10,none⟩=some (.slice A8 d.user.length c8):=hy.cell (Zb (alloc_at _ _) 10 _ rfl) id;have lb9:w.heap.size<w1.heap.size:=lt_of_cell b9;have HX:=Hd (Ai1 hx (Ai1 hy (((Fe w).alloc _).then hy)));clear hx hy)
  | (go_at_call 152;refine (B8 d.user A8 c8 w1 O (Z3 HA.out HX.out.2.2) hul HD.out.2.2.2.2).mono ?_;rintro e w2 ⟨v,rfl,hr2,hx2⟩;have H2:=Hd (Ai1 hr2 hx2);clear hr2 hx2)
  | (go_at_call 153;refine (Zaf d.user v w1.heap.size w w2 H2.out.1 HD.out.2.2.2.1 H.out.2 (HX.out.2.2.ext H2.out.2) Om H2.out.2.size).mono ?_;rintro e w3 ⟨ku,rfl,hk3,hc3,hf3⟩;have H3:=Hd (Ai1 hk3 (Ai1 hc3 (H2.out.2.trans hf3 (λj hj e=>by have:=(H2.out.1.low j e).1;omega))));clear hk3 hc3 hf3)
  | (go_at_call 154;refine (Cy (some ⟨ku,0,none⟩) w3).mono ?_;rintro e w4 ⟨rfl,hc4,hx4⟩;have H4:=Hd (Ai1 hc4 hx4);clear hc4 hx4)
  | (at_builtin;refine RowK.lst (v:=.slice none 0 0) rfl _ _ 280 rfl (.func (.func 188) #[] #[.pointer (some ⟨w3.heap.size,0,none⟩)]) [.func (.func 188) #[] #[.pointer (some ⟨w3.heap.size,0,none⟩)]] 8 ⟨w4.heap.size,0,none⟩ Tryz.underlying280 Zd5 (by decide) Om rfl rfl (RowK.nil (d:=tV1) (B:=w4.heap.size) _) (by simp) (by simp) (Z0 _ _) ⟨rfl,rfl⟩ ?_;intro v5 w5 hR5 hf5 ha5;obtain⟨A9,c9,e9⟩:=hR5.own;subst e9;have H5:=Hd (Ai1 hR5 (Fr.trans (S:=λ_=>False) ((Fl w4).alloc _) hf5 (λj _ e=>by cases e)));clear hR5 hf5 ha5)
  | fail)
 obtain⟨hN,HN⟩:∃ hN,hN=w.heap.size+1:=⟨_,rfl⟩;have l12:=H2.out.2.size;have l13:=H3.out.2.2.size;have l34:w3.heap.size<w4.heap.size:=lt_of_cell H4.out.1;have l45:=H5.out.2.size;have hUl:=HX.out.1.lt;have hD1:=HX.out.1.keep H3.out.2.2 (λ_ _ _=>id);rw[Za,<- HN]at hD1;have W3:Zx d kd hN w3.heap.size w3/\V7 ku (Zak d) hN w3.heap.size w3/\Lr ku (Jd d) hN w3.heap.size w3/\Yz (Zak d):=⟨hD1.up Om (Nl _),V7.low H3.out.1 Om,Lr.up H3.out.2.1 Om (Nl _),Gq HD.out.2.2.2.1⟩;have HW:=Hd (Ai1 W3 (HX.out.2.2.trans H3.out.2.2 (λ_ _ e=>e)));have HC:=Hd (H5.out.2.cell H4.out.1 id)
 have fin:Hid (∀ tk w',w'.heap[tk]?=some (.cells (Y3 kd (some ⟨ku,0,none⟩) om) 291 (0,0))->Zf w3 w'->Zej d (some (ku,Zak d)) om tk kd hN w3.heap.size w'/\Lr ku (Jd d) hN w3.heap.size w'/\w.heap.size<=hN/\Zf w w'):=λtk w' h f3=>by
  exact⟨⟨h,HW.out.1.1.keep f3 (λ_ _ _=>id),λx e=>by cases e;exact⟨HW.out.1.2.1.keep f3 (λ_ _ _=>id),HW.out.1.2.2.2⟩⟩,HW.out.1.2.2.1.keep f3 (λ_ _ _=>id),Om,HW.out.2.trans f3 (λ_ _ e=>e)⟩
 clear W3 hD1 hUl HX;have X35:Zf w3 w5:=H4.out.2.trans H5.out.2 (λ_ _ e=>e);have ho1:∀ (t:Nat) (W:World),Fr (λj=>w4.heap.size<=j) w5 W->w5.heap.size<=t->Zel (.func (.func 188) #[] #[.pointer (some ⟨w3.heap.size,0,none⟩)]) t (Y3 kd none false) (Y3 kd (some ⟨ku,0,none⟩) false) W:=λt W f ht=>Zbu t w3.heap.size ⟨ku,0,none⟩ _ _ _ W (f.cell HC.out (by show ¬ w4.heap.size<=w3.heap.size;omega)) Om
 cases om with
 | false =>
  have CN:=Hd (Qa kd 1 c9 A9 [.func (.func 188) #[] #[.pointer (some ⟨w3.heap.size,0,none⟩)]] (λj=>if j=0 then Y3 kd none false else Y3 kd (some ⟨ku,0,none⟩) false) w5 rfl Om H5.out.1.vals rfl (λj h=>by
   obtain rfl:j=0:=by simp at h;omega
   exact ho1 _ _ ((Fl w5).alloc _) (Nl _)))
  have HX35:=Hd X35;clear X35
  go_wp2_with (first
   | (go_at_call 156;refine CN.out.mono ?_;rintro e w6 ⟨rfl,hx,hy⟩;have HY:=Hd (Ai1 hx hy);clear hx hy)
   | fail)
  first|go_ret|go_ret2
  exact⟨_,kd,_,_,ku,rfl,fin.out _ _ HY.out.1 (HX35.out.trans HY.out.2 (λ_ _ e=>e))⟩
 | true =>
  go_upto_region 12 with (first
   | (go_at_call 155;refine (Zad _).mono ?_;rintro e w6 ⟨rfl,rfl⟩)
   | (at_builtin;refine RowK.lst (v:=.slice A9 1 c9) rfl _ _ 280 rfl (.func (.func 189) #[] #[]) [.func (.func 189) #[] #[]] 8 ⟨w6.heap.size,0,none⟩ Tryz.underlying280 Zd5 (by decide) Om rfl rfl (RowK.ext H5.out.1 ((Fl _).alloc _)) (by simp) (by simp;omega) (Z0 _ _) ⟨rfl,rfl⟩ ?_;intro v7 w7 hR7 hf7 ha7;obtain⟨A7',c7',e7⟩:=hR7.own;subst e7;have H7:=Hd (Ai1 hR7 (Fr.trans (S:=λj=>(Value.slice A9 1 c9).ownBlock=some j) ((Fl w6).alloc _) hf7 (λj _ e=>e)));clear hR7 hf7 ha7)
   | fail)
  have hlo:∀ j,(Value.slice A9 1 c9).ownBlock=some j->w4.heap.size<=j:=λj e=>(H5.out.1.low j e).1
  have F7:Fr (λj=>w4.heap.size<=j) w6 w7:=H7.out.2.mono (λj _ e=>hlo j e);have X37:Zf w3 w7:=X35.trans F7 (λj hj e=>Om)
  have CN:=Hd (Qa kd 2 c7' A7' [.func (.func 188) #[] #[.pointer (some ⟨w3.heap.size,0,none⟩)],.func (.func 189) #[] #[]] (λj=>if j=0 then Y3 kd none false else if j=1 then Y3 kd (some ⟨ku,0,none⟩) false else Y3 kd (some ⟨ku,0,none⟩) true) w7 rfl Om H7.out.1.vals rfl (λj h=>by
   have h:j<2:=h
   match j,h with
   | 0,_=>exact ho1 _ _ (F7.alloc _) F7.size
   | 1,_=>exact Zdw _ _ _ _ _))
  have HX37:=Hd X37;clear X35 X37 F7 hlo ho1
  go_wp2_with (first
   | (go_at_call 156;refine CN.out.mono ?_;rintro e w8 ⟨rfl,hx,hy⟩;have HY:=Hd (Ai1 hx hy);clear hx hy)
   | fail)
  first|go_ret|go_ret2
  exact⟨_,kd,_,_,ku,rfl,fin.out _ _ HY.out.1 (HX37.out.trans HY.out.2 (λ_ _ e=>e))⟩
def usX(us:List GRec):XU:=⟨λku H U w=>Lr ku us H U w,λh f hS=>h.keep f hS⟩
def Qs(d:Zg):Option (List ByteArray):=if d.hasUser then some (Zak d) else none
def xOf(d:Zg):XU:=if d.hasUser then usX (Jd d) else noX
def Dy(d:Zg):Prop:=d.hasUser=true->Zde (Jd d)/\∀ u∈d.user,u.tokens.length<=2147483647/\u.yomi.length<=2147483647
theorem Zbw{d:Zg}(h:Dy d):∀ ks,Qs d=some ks->Yz ks:=by
 intro ks e;unfold Qs at e
 split at e
 ·next hu=>cases e;exact Gq (h hu).1
 ·cases e
theorem Ed(d:Zg)(cs:List Value)(O:Nat->Prop)(w:World)(h:tDict.R w O d cs)(hT:Tbs w)(hd:I4 d)(hr:Zm d=true)(hok:Dy d):Kv d cs (Qs d) (xOf d) w:=by
 cases hu:d.hasUser with
 | false =>
  unfold Qs xOf;rw[hu];exact I5 d cs O w h hT.u8 hd hr hu
 | true =>
  obtain⟨h1,h2⟩:=hok hu;unfold Qs xOf;rw[hu];intro om W f;refine (Zby d cs O om W (tDict.ext h f) (hT.ext f) hd hr hu h1 h2).mono ?_;rintro e w' ⟨tk,kd,H,U,ku,a,b,c,e',g⟩;exact⟨tk,kd,H,U,ku,a,b,c,e',g⟩
end
end Go.Proofs.YtlfoalomaofejaaGreatDoor
