/- A row that is owned of data of several cells: what append makes of it. · A region that draws its ord -/
import Derived.Test.YtoliamijgmifkaaGreatDoorF41
import Derived.Test.YtoliamijgmifkaaGreatDoorF35
set_option linter.all false
set_option maxRecDepth 100000
set_option maxHeartbeats 2000000
namespace Go.Proofs.YtoliamijgmifkaaGreatDoor
section
open Go.RowKit DT
def Qx(P:Program)(T:TypeId)(n b:Nat):Prop:=∃ i,P.info? T=some i/\∃ z:Value,i.zero=some z/\i.size=n/\i.bytes=b/\z.cells.size=n
theorem Rk{P:Program}{T:TypeId}{n b:Nat}(h:(P.info? T).map (fun i=>(i.zero.map (fun z=>z.cells.size),i.size,i.bytes))=some (some n,n,b)):Qx P T n b:=by
 cases hi:P.info? T with
 | none=>rw[hi]at h;cases h
 | some i =>
  rw[hi]at h;simp only[Option.map_some,Option.some.injEq,Prod.mk.injEq]at h;obtain⟨h1,h2,h3⟩:=h
  cases hz:i.zero with
  | none=>rw[hz]at h1;cases h1
  | some z =>
   rw[hz]at h1;exact⟨i,hi,z,hz,h2,h3,by simpa using h1⟩
def RowK{α:Type}(d:Ty α)(T:TypeId)(v:Value)(xs:List α)(B:Nat)(w:World):Prop :=
 ∃ es:List (List Value),es.length=xs.length/\w.ownsRow B T d.sz v xs.length es.flatten/\∀ i (_:i<xs.length) (_:i<es.length),d.R w (fun j=>B<=j/\v.ownBlock≠some j) xs[i] es[i]
section
variable{P:Program}{α:Type}{d:Ty α}{T:TypeId}{v:Value}{xs:List α}{B:Nat}{w w':World}
theorem RowK.nil(w:World):RowK d T (.slice none 0 0) ([]:List α) B w:=⟨[],rfl,World.ownsRow_nil _ _ _ _,fun i h=>by simp at h⟩
theorem RowK.own(h:RowK d T v xs B w):∃ A c,v = .slice A xs.length c:=by
 obtain⟨_,_,ho,_⟩:=h;exact Zl ho
theorem RowK.low(h:RowK d T v xs B w):∀ j,v.ownBlock=some j->B<=j/\j<w.heap.size:=by
 obtain⟨_,_,ho,_⟩:=h;exact fun j e=>⟨Yx (g:=j) ho e,Kr ho e⟩
theorem RowK.keep{S:Nat->Prop}(h:RowK d T v xs B w)(f:Fr S w w')(hS:∀ j,B<=j->j<w.heap.size->¬ S j):RowK d T v xs B w':=by
 obtain⟨es,h0,ho,h1⟩:=h;exact⟨es,h0,Zy ho f (fun j e=>hS j (Yx (g:=j) ho e) (Kr ho e)),fun i hi hj=>d.keep (h1 i hi hj) f (fun k hk q=>hS k q.1 hk)⟩
theorem RowK.ext(h:RowK d T v xs B w)(f:Ext w w'):RowK d T v xs B w':=h.keep f (fun _ _ _=>id)
theorem RowK.base{B':Nat}(h:RowK d T v xs B w)(hb:B'<=B):RowK d T v xs B' w:=by
 obtain⟨es,h0,⟨hl,ho⟩,h1⟩:=h;refine⟨es,h0,⟨hl,ho.imp id ?_⟩,fun i hi hj=>d.mono (fun k _ q=>⟨Nat.le_trans hb q.1,q.2⟩) (h1 i hi hj)⟩;rintro⟨g,cap,cur,e,hg,r⟩;exact⟨g,cap,cur,e,Nat.le_trans hb hg,r⟩
theorem Kf{m:Nat}:∀ (es:List (List Value)) (i j:Nat) (hi:i<es.length),(∀ e∈es,e.length=m)->j<m->es.flatten[i*m+j]? = es[i][j]?
 | e::es,0,j,_,h,hj=>by
  rw[List.flatten_cons,Nat.zero_mul,Nat.zero_add,List.getElem?_append_left (by rw[h e (by simp)];exact hj)];rfl
 | e::es,i+1,j,hi,h,hj=>by
  have he:=h e (by simp);rw[List.flatten_cons,List.getElem?_append_right (by rw[he,Nat.add_mul];omega),he,show (i+1)*m+j-m=i*m+j by rw[Nat.add_mul];omega];exact Kf es i j (by simpa using hi) (fun x hx=>h x (by simp[hx])) hj
theorem RowK.slice(h:RowK d T v xs B w):(Ty.slice d).R w (fun j=>B<=j) xs [v]:=by
 obtain⟨es,h0,ho,h1⟩:=h
 have hlen:∀ e∈es,e.length=d.sz:=by
  intro e he;obtain⟨i,hi,rfl⟩:=List.getElem_of_mem he;exact d.len (h1 i (by omega) hi)
 rcases id ho.2 with ⟨rfl,hn⟩|⟨g,cap,cur,rfl,hb,hc,h2,h3,h4,h5⟩
 ·have:xs=[]:=List.eq_nil_of_length_eq_zero hn;subst this;exact⟨none,0,rfl,Nat.le_refl _,fun _=>rfl,by simp,.inl rfl⟩
 ·refine⟨some ⟨g,0,none⟩,cap,rfl,h2,(by intro e;cases e),by unfold maxLen at h3;omega,.inr ⟨g,0,rfl,hb,(Array.getElem?_eq_some_iff.1 hc).1,fun i hi=>⟨es[i]'(by omega),d.mono (fun _ _ q=>q.1) (h1 i hi (by omega)),fun j hj=>?_⟩⟩⟩;have hj':j<d.sz:=by rw[hlen _ (List.getElem_mem (show i<es.length by omega))]at hj;exact hj
  have e:es.flatten[i*d.sz+j]? = some ((es[i]'(by omega))[j]):=by rw[Kf es i j (by omega) hlen hj'];exact List.getElem?_eq_getElem hj
  have:=ho.cells (g:=g) rfl _ _ e;rw[Addr.add_lit,Nat.zero_add]at this;rw[Nat.zero_add];exact this
theorem RowK.snoc{x:α}{cs:List Value}{v':Value}(h:RowK d T v xs B w)(hx:d.R w (fun j=>B<=j/\v.ownBlock≠some j) x cs)(hg:w.grownBy w' v.ownBlock)(hat:v'.ownBlock=v.ownBlock\/v'.ownBlock=some w.heap.size)
  (hn:∀ es:List (List Value),es.length=xs.length->w.ownsRow B T d.sz v xs.length es.flatten->w'.ownsRow B T d.sz v' (xs.length+1) (es.flatten++cs)):RowK d T v' (xs++[x]) B w':=by
 obtain⟨es,h0,ho,h1⟩:=h;have F:Fr (fun j=>v.ownBlock=some j) w w':=(Fr.refl _ w).grown hg (fun k e _=>e)
 have old:∀ {x:α} {cs:List Value},d.R w (fun j=>B<=j/\v.ownBlock≠some j) x cs->d.R w' (fun j=>B<=j/\v'.ownBlock≠some j) x cs:=by
  intro x cs hr;refine d.mono (O:=fun j=>(B<=j/\v.ownBlock≠some j)/\j<w.heap.size) (fun k _ q=>⟨q.1.1,fun e=>?_⟩) (d.keep (d.mono (fun k hk q=>⟨q,hk⟩) hr) F (fun k _ q e=>q.1.2 e));rcases hat with z|z
  ·exact q.1.2 (z ▸ e)
  ·rw[z]at e;injection e with e;have:=q.2;omega
 refine⟨es++[cs],by simp[h0],?_,fun i hi hj=>?_⟩
 ·rw[List.flatten_append,List.flatten_cons,List.flatten_nil,List.append_nil,List.length_append,List.length_singleton];exact hn es h0 ho
 ·rcases Nat.lt_or_ge i xs.length with q|q
  ·have e1:(xs++[x])[i]=xs[i]:=List.getElem_append_left q;have e2:(es++[cs])[i]=es[i]'(by omega):=List.getElem_append_left (by omega);rw[e1,e2];exact old (h1 i q (by omega))
  ·have hi2:i=xs.length:=by rw[List.length_append,List.length_singleton]at hi;omega
   subst hi2;have e1:(xs++[x])[xs.length]=x:=by simp
   have e2:(es++[cs])[xs.length]'(by simp[h0])=cs:=by simp[<- h0]
   rw[e1,e2];exact old hx
theorem RowK.run{x:α}{cs:List Value}{t ty:TypeId}{by0:Nat}{ad:Addr}(h:RowK d T v xs B w)(ht:P.underlying t=some (.slice T))(hi:Qx P T d.sz by0)(hs:0<d.sz)(hby:by0<=10000)(hn:xs.length<=4294967296)(hB:B<=w.heap.size)
  (hc:∀ j u,cs[j]? = some u->w.cell? (ad.add j)=some u) (hx:d.R w (fun j=>B<=j/\v.ownBlock≠some j) x cs) :
  ∃ v' w',(Builtin.append_ #[t,t] ty #[v,.slice (some ad) 1 1]).run P w = .ok v' w'/\RowK d T v' (xs++[x]) B w'/\Fr (fun j=>v.ownBlock=some j) w w'/\(v'.ownBlock=v.ownBlock\/v'.ownBlock=some w.heap.size):=by
 obtain⟨i,hi,z,hz,hsz,hb,hzs⟩:=hi;obtain⟨es,h0,ho,h1⟩:=h;have hm:xs.length*by0<=4294967296*10000:=Nat.mul_le_mul hn hby;obtain⟨v',w',hr,h2,h3,_,h5⟩:=run_append_own_at (P:=P) w B t ty T i z d.sz by0 ht hi hz hsz hb hzs hs v xs.length es.flatten ho ad 1 1 cs (by rw[d.len hx,Nat.one_mul]) hc (d.one hx) (by unfold maxLen;omega) (by rw[Nat.add_mul];omega) hB;refine⟨v',w',hr,RowK.snoc ⟨es,h0,ho,h1⟩ hx h3 h5 (fun es' h0' ho'=>?_),(Fr.refl _ w).grown h3 (fun k e _=>e),h5⟩;obtain⟨v2,w2,hr2,k2,_⟩:=run_append_own_at (P:=P) w B t ty T i z d.sz by0 ht hi hz hsz hb hzs hs v xs.length es'.flatten ho' ad 1 1 cs (by rw[d.len hx,Nat.one_mul]) hc (d.one hx) (by unfold maxLen;omega) (by rw[Nat.add_mul];omega) hB;rw[hr]at hr2;cases hr2;exact k2
theorem RowK.op{ops:Array Oper}{o:Oper}{a:Act}{K:Act->World->Prop}{Q:Exit->Act->World->Prop}{E:Prop}(hg:o.guard=none)(s y:Operand)(t:TypeId)(hop:o.op=Op.call { callee:=Callee.builtin Builtin.append,args:=#[s,y],argTypes:=#[t,t] })
  (x:α) (cs:List Value) (by0:Nat) (ad:Addr) (ht:P.underlying t=some (.slice T)) (hi:Qx P T d.sz by0) (hs:0<d.sz) (hby:by0<=10000) (he:a.eval s=v) (hy:a.eval y = .slice (some ad) 1 1) (h:RowK d T v xs B w) (hn:xs.length<=4294967296) (hB:B<=w.heap.size)
  (hc:∀ j u,cs[j]? = some u->w.cell? (ad.add j)=some u) (hx:d.R w (fun j=>B<=j/\v.ownBlock≠some j) x cs) (hK:∀ v' w',RowK d T v' (xs++[x]) B w'->Fr (fun j=>v.ownBlock=some j) w w'->(v'.ownBlock=v.ownBlock\/v'.ownBlock=some w.heap.size)->K (a.put o.dst v') w') :
  if Region.wanted o (yielded ops a.tmps)=true then Oper.wp P o a w K Q else E:=by
 have hw:Region.wanted o (yielded ops a.tmps)=true:=by simp[Region.wanted,hg]
 rw[if_pos hw];obtain⟨v',w',hr,k2,k3,k4⟩:=h.run (t:=t) (ty:=o.type) ht hi hs hby hn hB hc hx;unfold Oper.wp;simp only[execOp,hop,resolve,invoke,builtin,Sem.run_bind,Sem.run_pure,Result.andThen_ok,List.map_toArray,List.map_cons,List.map_nil,he,hy,hr];exact hK v' w' k2 k3 k4
theorem RowK.lst{ops:Array Oper}{rest:List Oper}{o:Oper}{a:Act}{Q:Exit->Act->World->Prop}(hg:o.guard=none)(s y:Operand)(t:TypeId)(hop:o.op=Op.call { callee:=Callee.builtin Builtin.append,args:=#[s,y],argTypes:=#[t,t] })
  (x:α) (cs:List Value) (by0:Nat) (ad:Addr) (ht:P.underlying t=some (.slice T)) (hi:Qx P T d.sz by0) (hs:0<d.sz) (hby:by0<=10000) (he:a.eval s=v) (hy:a.eval y = .slice (some ad) 1 1) (h:RowK d T v xs B w) (hn:xs.length<=4294967296) (hB:B<=w.heap.size)
  (hc:∀ j u,cs[j]? = some u->w.cell? (ad.add j)=some u) (hx:d.R w (fun j=>B<=j/\v.ownBlock≠some j) x cs) (hK:∀ v' w',RowK d T v' (xs++[x]) B w'->Fr (fun j=>v.ownBlock=some j) w w'->(v'.ownBlock=v.ownBlock\/v'.ownBlock=some w.heap.size)->wpList P ops Q rest (a.put o.dst v') w') :
  wpList P ops Q (o::rest) a w:=by
 obtain⟨v',w',hr,k2,k3,k4⟩:=h.run (t:=t) (ty:=o.type) ht hi hs hby hn hB hc hx;refine wpList_plain hg fun K hK'=>?_
 unfold Oper.wp execOp;simp only[hop,resolve,invoke,builtin,Sem.run_bind,Sem.run_pure,Result.andThen_ok,List.map_toArray,List.map_cons,List.map_nil,he,hy,hr];exact hK' _ _ (hK v' w' k2 k3 k4)
end
end
section
open Go
def Xg(ops:Array Oper)(i:Nat):Option Tmp:=(ops[i]?).bind (·.dst)
def Xb(ops:Array Oper)(vals:Nat->Value):List Nat->Act->Act
 | [],a=>a
 | i::l,a=>Xb ops vals l (a.put (Xg ops i) (vals i))
section
variable{P:Program}{ops:Array Oper}{Q:Exit->Act->World->Prop}{S:World->Prop}{z:Nat}{vals:Nat->Value}
theorem E8(a:Act)(d:Option Tmp)(v:Value):(a.put d v).tmps.size=a.tmps.size:=by cases d <;> simp[Act.put]
theorem put_defers(a:Act)(d:Option Tmp)(v:Value):(a.put d v).defers=a.defers:=by cases d <;> rfl
theorem V3:∀ (l:List Nat) (a:Act),(Xb ops vals l a).tmps.size=a.tmps.size
 | [],_=>rfl
 | i::l,a=>by rw[Xb,V3 l,E8]
theorem Ql:∀ (l:List Nat) (a:Act),(Xb ops vals l a).defers=a.defers
 | [],_=>rfl
 | i::l,a=>by rw[Xb,Ql l,put_defers]
theorem Mz:∀ (l:List Nat) (i:Nat) (a:Act),Xb ops vals (l++[i]) a=(Xb ops vals l a).put (Xg ops i) (vals i)
 | [],_,_=>rfl
 | _::l,i,_=>Mz l i _
theorem Kj{vals':Nat->Value}:∀ (l:List Nat) (a:Act),(∀ i∈l,vals i=vals' i)->Xb ops vals l a=Xb ops vals' l a
 | [],_,_=>rfl
 | j::l,a,h=>by
  rw[Xb,Xb,h j (by simp)];exact Kj l _ (fun i hi=>h i (by simp[hi]))
theorem B8(a:Act){d:Option Tmp}(v:Value){x:Nat}(h:d≠some x):(a.put d v).tmps[x]? = a.tmps[x]?:=by
 cases d with
 | none=>rfl
 | some d =>
  have:d≠x:=fun e=>h (by rw[e])
  simp[Act.put,Array.getElem?_setIfInBounds_ne this]
theorem V4{x:Nat}:∀ (l:List Nat) (a:Act),(∀ e∈l,Xg ops e≠some x)->(Xb ops vals l a).tmps[x]? = a.tmps[x]?
 | [],_,_=>rfl
 | i::l,a,h=>by
  rw[Xb,V4 l _ (fun e he=>h e (by simp[he])),B8 a _ (h i (by simp))]
theorem Qk{x e:Nat}:∀ (l:List Nat) (a:Act),(∀ j∈l,Xg ops j=some x->j=e)->e∈l->Xg ops e=some x->x<a.tmps.size->(Xb ops vals l a).tmps[x]? = some (vals e)
 | i::l,a,h,he,hd,hx=>by
  rw[Xb];by_cases hl:e∈l
  ·exact Qk l _ (fun j hj=>h j (by simp[hj])) hl hd (by rw[E8];exact hx)
  ·have:e=i:=by simpa [hl] using he
   subst this;rw[V4 l _ (fun j hj q=>hl (h j (by simp[hj]) q ▸ hj)),hd];simp[Act.put,hx]
theorem Zaq{a b:Act}{x:Operand}(h:∀ t,x = .tmp t->a.tmps[t]? = b.tmps[t]?):a.eval x=b.eval x:=by
 cases x with
 | tmp t=>simp only[Act.eval,Array.getD_eq_getD_getElem?];rw[h t rfl]
 | _=>rfl
theorem Zap{a b:Act}(o:Oper)(hs:∀ cs b,o.op ≠ .select cs b)(h:∀ t∈o.looksAt ops,a.tmps[t]? = b.tmps[t]?):execOp a.eval o=execOp b.eval o :=
 execOp_congr o hs fun x hx=>Zaq fun t e=>h t (by
  subst e
  exact List.mem_append_left _ (List.mem_filterMap.2 ⟨.tmp t,by simpa using hx,rfl⟩))
theorem Zia{a b:Act}{d:Option Tmp}{u v:Value}(h:b.put d u=b.put d v)(hs:a.tmps.size=b.tmps.size):a.put d u=a.put d v:=by
 cases d with
 | none=>rfl
 | some d =>
  rcases Nat.lt_or_ge d b.tmps.size with q|q
  ·have h1:=congrArg (fun c:Act=>c.tmps[d]?) h;simp only[Act.put,Array.getElem?_setIfInBounds_self_of_lt q,Option.some.injEq]at h1;rw[h1]
  ·simp[Act.put,Array.setIfInBounds_eq_of_size_le (show a.tmps.size<=d by omega)]
theorem wp_move{o:Oper}{a b:Act}{w:World}{K:Act->World->Prop}{R:Value->World->Prop}(he:execOp a.eval o=execOp b.eval o)(hs:a.tmps.size=b.tmps.size)
  (h:Oper.wp P o b w (fun a' w'=>∃ v,a'=b.put o.dst v/\R v w') (fun _ _ _=>False)) (hK:∀ v w',R v w'->K (a.put o.dst v) w'):Oper.wp P o a w K Q:=by
 unfold Oper.wp at *;rw[he];generalize (execOp b.eval o).run P w=r at *
 have key:∀ u w',(∃ v,b.put o.dst u=b.put o.dst v/\R v w')->K (a.put o.dst u) w':=by
  rintro u w' ⟨v,e,hv⟩;rw[Zia e hs];exact hK v w' hv
 cases r with
 | ok n w' =>
  cases n <;> simp only[Oper.upon]at h⊢
  case value u=>exact key u w' h
  case skip=>exact key _ w' h
  case defer d =>
   obtain⟨v,e,_⟩:=h;have:=congrArg Act.defers e;rw[put_defers,put_defers]at this;simp at this
  case enter f args =>
   refine Calls.mono h fun e w'' he=>?_
   cases e with
   | returned u=>exact key u w'' he
   | panicked c=>exact he.elim
   | outgrown=>obtain⟨_,_,q⟩:=he;exact q.elim
  case row row args=>exact Rows.mono h fun u w'' he=>key u w'' he
 | halt x w' =>
  cases x <;> simp only[Oper.upon]at h⊢
def Zeh(E:World->World->Prop)(P:Program)(ops:Array Oper)(S:World->Prop)(F:Nat->Value->List Value->Nat->Nat->World->Prop)(a:Act)(i:Nat)(D:List Nat):Prop :=
 ∀ oi,ops[i]? = some oi->∀ (vals:Nat->Value) (W:World),S W->(∀ e∈D,∃ us lo hi,F e (vals e) us lo hi W)->∀ (Q':Exit->Act->World->Prop) (K:Act->World->Prop),Shut (∀ v a' W',a'=(Xb ops vals D a).put oi.dst v->E W W'->F i v (D.map vals) W.heap.size W'.heap.size W'->K a' W')->Oper.wp P oi (Xb ops vals D a) W K Q'
def Hc(E:World->World->Prop)(P:Program)(ops:Array Oper)(S:World->Prop)(F:Nat->Value->World->Prop)(a:Act)(i:Nat)(D:List Nat):Prop :=
 ∀ oi,ops[i]? = some oi->∀ (vals:Nat->Value) (W:World),S W->(∀ e∈D,F e (vals e) W)->∀ (Q':Exit->Act->World->Prop) (K:Act->World->Prop),Shut (∀ v a' W',a'=(Xb ops vals D a).put oi.dst v->E W W'->F i v W'->K a' W')->Oper.wp P oi (Xb ops vals D a) W K Q'
abbrev Zhj(P:Program)(ops:Array Oper)(S:World->Prop)(F:Nat->Value->World->Prop)(a:Act)(i:Nat)(D:List Nat):Prop:=Hc Ext P ops S F a i D
def Zih(ops:Array Oper)(sp:List (Nat × List Nat))(p:Nat × List Nat):Bool :=
 p.2.all (fun e=>Region.waitsFor .any ops p.1 e&&sp.any (fun q=>q.1==e)) &&
 ((match ops[p.1]? with
  | some o=>(o.looksAt ops).all (fun x=>sp.all fun q=>!(Xg ops q.1==some x)||p.2.contains q.1)
  | none=>false) &&
 sp.all (fun q=>q.1==p.1||Xg ops p.1==none || !(Xg ops q.1==Xg ops p.1)))
def I2(ops:Array Oper)(z:Nat)(listed:Array Bool)(sp:List (Nat × List Nat))(t:Nat):Bool :=
 (decide (z<ops.size)&&(Region.noSelect ops&&decide (sp.map (·.1)).Nodup)) &&
 (sp.all (fun p=>decide (p.1<z)&&(!listed.getD p.1 true&&(Zih ops sp p&&(Region.waitsFor .any ops t p.1||sp.any fun q=>decide (p.1<q.1)&&Region.waitsFor .any ops q.1 p.1)))) &&
 ((List.range ops.size).all (fun i=>listed.getD i false||(sp.any (fun p=>p.1==i)||(i==t||(List.range ops.size).any fun j=>Region.waitsFor .any ops i j&&(!listed.getD j false && !sp.any (fun p=>p.1==j))))) &&
 (List.range ops.size).all (fun i=>match ops[i]? with
  | some o=>(listed.getD i false||o.guard.isNone)&&o.after.all (fun e=>!Region.binds .any e||decide (e.on<i))
  | none=>false)))
def Ve(sp:List (Nat × List Nat))(listed:Array Bool):Array Bool:=sp.foldl (fun l p=>l.setIfInBounds p.1 true) listed
theorem Mw:∀ (sp:List (Nat × List Nat)) (l:Array Bool),(Ve sp l).size=l.size
 | [],_=>rfl
 | p::sp,l=>by show (Ve sp _).size=_;rw[Mw sp];simp
theorem Kb:∀ (sp:List (Nat × List Nat)) (l:Array Bool) (k:Nat),k<l.size->((Ve sp l).getD k false=true ↔ (∃ D,(k,D)∈sp)\/l.getD k false=true)
 | [],l,k,_=>by simp[Ve]
 | p::sp,l,k,hk=>by
  have:=Kb sp (l.setIfInBounds p.1 true) k (by simpa using hk);show (Ve sp (l.setIfInBounds p.1 true)).getD k false=true ↔ _;rw[this];by_cases e:k=p.1
  ·subst e;constructor
   ·intro _;exact .inl ⟨p.2,by simp⟩
   ·intro _;right;rw[Array.getD_eq_getD_getElem?,Array.getElem?_setIfInBounds_self_of_lt hk];rfl
  ·rw[getD_set_ne false (Ne.symm e)];constructor
   ·rintro (⟨D,h⟩|h)
    ·exact .inl ⟨D,by simp[h]⟩
    ·exact .inr h
   ·rintro (⟨D,h⟩|h)
    ·rcases List.mem_cons.1 h with h|h
     ·exact absurd (congrArg Prod.fst h) e
     ·exact .inl ⟨D,h⟩
    ·exact .inr h
theorem Fy{o:Oper}(h:o.guard=none)(y:Nat->Option Bool):Region.wanted o y=true:=by unfold Region.wanted;rw[h]
theorem Zfh{L:Array Bool}(hL:L.size=ops.size)(hord:∀ i o,ops[i]? = some o->∀ e∈o.after,Region.binds .any e=true->e.on<i) :
  ∀ (n i:Nat),i=n->i<ops.size->L.getD i true=false->Region.ready .any ops L≠[]:=by
 intro n
 induction n using Nat.strongRecOn with
 | _ n ih =>
  rintro i rfl hi hu he;have hnr:i ∉ Region.ready .any ops L:=by rw[he];simp
  have ho:ops[i]? = some ops[i]:=Array.getElem?_eq_getElem hi;have:¬ ∀ e∈ops[i].after,Region.binds .any e=true->L.getD e.on false=true:=fun q=>hnr (mem_ready.2 ⟨hu,_,ho,q⟩)
  have:∃ e∈ops[i].after,Region.binds .any e=true/\L.getD e.on false=false:=by
   apply Classical.byContradiction;intro q;apply this;intro e he hb
   cases hq:L.getD e.on false with
   | true=>rfl
   | false=>exact absurd ⟨e,he,hb,hq⟩ q
  obtain⟨e,hem,hb,hl⟩:=this;have hlt:=hord i _ ho e hem hb;exact ih e.on hlt e.on rfl (by omega) (getD_in (by omega) hl) he
theorem WZ.flowI{E:World->World->Prop}(hE0:∀ W,E W W)(hE1:∀ W1 W2 W3,E W1 W2->E W2 W3->E W1 W3){N:Nat}{listed:Array Bool}{a:Act}{w:World}(fuel t:Nat)(sp:List (Nat × List Nat))(F:Nat->Value->List Value->Nat->Nat->World->Prop)(hok:I2 ops z listed sp t=true)(hfu:N=fuel+sp.length)
  (hS:∀ W W',S W->E W W'->S W') (hF:∀ i v us lo hi W W',E W W'->F i v us lo hi W->F i v us lo hi W') (hSw:S w) (spec:∀ p∈sp,Zeh E P ops S F a p.1 p.2)
  (cont:∀ (vals:Nat->Value) (lo hi:Nat->Nat) (W:World),E w W->S W->(∀ p∈sp,F p.1 (vals p.1) (p.2.map vals) (lo p.1) (hi p.1) W)->((∀ W W',E W W'->W.heap.size<=W'.heap.size)->∀ p∈sp,∀ q∈sp,p.1≠q.1->hi p.1<=lo q.1\/hi q.1<=lo p.1)->WZ P ops Q S z fuel (Ve sp listed) (Xb ops vals (sp.map (·.1)) a) W) :
  WZ P ops Q S z N listed a w:=by
 intro inv;unfold I2 at hok;simp only[Bool.and_eq_true,decide_eq_true_eq]at hok;obtain⟨⟨hz,hsel,hnd⟩,hsp,hcov,hall⟩:=hok;have hsel:=Region.noSelect_spec hsel
 have hops:∀ i o,ops[i]? = some o->(listed.getD i false=false->o.guard=none)/\∀ e∈o.after,Region.binds .any e=true->e.on<i:=by
  intro i o ho;have hi:=(Array.getElem?_eq_some_iff.1 ho).1;have:=List.all_eq_true.1 hall i (List.mem_range.2 hi);rw[ho]at this;simp only[Bool.and_eq_true,Bool.or_eq_true,Option.isNone_iff_eq_none]at this;refine⟨fun q=>this.1.resolve_left (by rw[q];simp),fun e he hb=>?_⟩;have h2:=Array.all_eq_true'.1 this.2 e he;rw[hb]at h2;simpa using h2
 have hcov:∀ i,i<ops.size->listed.getD i false=false->(∃ D,(i,D)∈sp)\/i=t\/∃ j,j<ops.size/\Region.waitsFor .any ops i j=true/\listed.getD j false=false/\¬ ∃ D,(j,D)∈sp:=by
  intro i hi hl;have:=List.all_eq_true.1 hcov i (List.mem_range.2 hi);rw[hl,Bool.false_or,Bool.or_eq_true,Bool.or_eq_true]at this;rcases this with h|h|h
  ·obtain⟨p,hp,e⟩:=List.any_eq_true.1 h;obtain rfl:p.1=i:=by simpa using e
   exact .inl ⟨p.2,hp⟩
  ·exact .inr (.inl (by simpa using h))
  ·obtain⟨j,hj,e⟩:=List.any_eq_true.1 h;simp only[Bool.and_eq_true,Bool.not_eq_true']at e;refine .inr (.inr ⟨j,List.mem_range.1 hj,e.1,e.2.1,?_⟩);rintro⟨D,hD⟩;have:=List.any_eq_false.1 e.2.2 _ hD;simp at this
 have hsp:∀ p∈sp,p.1<z/\listed.getD p.1 true=false/\Zih ops sp p=true/\(Region.waitsFor .any ops t p.1=true\/∃ q∈sp,p.1<q.1/\Region.waitsFor .any ops q.1 p.1=true):=by
  intro p hp;have:=List.all_eq_true.1 hsp p hp;simpa only [Bool.and_eq_true,decide_eq_true_eq,Bool.not_eq_true',Bool.or_eq_true,List.any_eq_true] using this
 have hdst:∀ p∈sp,∀ q∈sp,∀ x,Xg ops p.1=some x->Xg ops q.1=some x->q.1=p.1:=by
  intro p hp q hq x h1 h2;have:=(hsp p hp).2.2.1;unfold Zih at this;simp only[Bool.and_eq_true,List.all_eq_true]at this;have:=this.2.2 q hq;rw[h1,h2]at this;simpa using this
 have main:∀ (n:Nat) (L:Array Bool) (vals:Nat->Value) (lo hi:Nat->Nat) (done:List Nat) (W:World),HeadInv .any ops z L->S W->E w W->(∀ i,listed.getD i false=true->L.getD i false=true) ->
   (∀ i,i∈done ↔ (∃ D,(i,D)∈sp)/\L.getD i false=true)->(∀ i,L.getD i false=true->listed.getD i false=false->i∈done)->(∀ p∈sp,p.1∈done->F p.1 (vals p.1) (p.2.map vals) (lo p.1) (hi p.1) W/\∀ e∈p.2,e∈done)->((∀ W W',E W W'->W.heap.size<=W'.heap.size)->(∀ i∈done,hi i<=W.heap.size)/\∀ i∈done,∀ j∈done,i≠j->hi i<=lo j\/hi j<=lo i) ->
   (sp.filter (fun p=>!L.getD p.1 false)).length=n->Nt P ops Q S z (fuel+n) L (Xb ops vals done a) W:=by
  intro n
  induction n with
  | zero =>
   intro L vals lo hi done W inv' hSW hx hmono hdone hnew hFd hiv hn
   have hempty:∀ p∈sp,L.getD p.1 false=true:=by
    intro p hp
    cases hq:L.getD p.1 false with
    | true=>rfl
    | false =>
     have:p∈sp.filter (fun p=>!L.getD p.1 false):=List.mem_filter.2 ⟨hp,by rw[hq];rfl⟩;rw[List.eq_nil_of_length_eq_zero hn]at this;cases this
   have hact:Xb ops vals done a=Xb ops vals (sp.map (·.1)) a:=by
    have h1:(Xb ops vals done a).tmps=(Xb ops vals (sp.map (·.1)) a).tmps:=by
     apply Array.ext_getElem?;intro x;by_cases hx:∃ p∈sp,Xg ops p.1=some x
     ·obtain⟨p,hp,hd⟩:=hx;by_cases hs:x<a.tmps.size
      ·rw[Qk done a (fun j hj q=>?_) ((hdone p.1).2 ⟨⟨p.2,hp⟩,hempty p hp⟩) hd hs,Qk (sp.map (·.1)) a (fun j hj q=>?_) (List.mem_map.2 ⟨p,hp,rfl⟩) hd hs]
       ·obtain⟨q',hq',rfl⟩:=List.mem_map.1 hj;exact hdst p hp q' hq' x hd q
       ·obtain⟨D,hD⟩:=((hdone j).1 hj).1;exact hdst p hp _ hD x hd q
      ·rw[Array.getElem?_eq_none (by rw[V3];omega),Array.getElem?_eq_none (by rw[V3];omega)]
     ·rw[V4 done a (fun e he q=>?_),V4 (sp.map (·.1)) a (fun e he q=>?_)]
      ·obtain⟨q',hq',rfl⟩:=List.mem_map.1 he;exact hx ⟨q',hq',q⟩
      ·obtain⟨D,hD⟩:=((hdone e).1 he).1;exact hx ⟨_,hD,q⟩
    have h2:(Xb ops vals done a).defers=(Xb ops vals (sp.map (·.1)) a).defers:=by rw[Ql,Ql]
    generalize Xb ops vals done a=x at h1 h2⊢;generalize Xb ops vals (sp.map (·.1)) a=y at h1 h2⊢;cases x;cases y;simp only at h1 h2;subst h1 h2;rfl
   have hL:L=Ve sp listed:=by
    have hs1:=inv'.size;have hs2:=inv.size;apply Array.ext
    ·rw[Mw];omega
    ·intro k h1 h2;have e1:L[k]=L.getD k false:=by simp[h1]
     have e2:(Ve sp listed)[k]=(Ve sp listed).getD k false:=by simp[h2]
     rw[e1,e2,Bool.eq_iff_iff,Kb sp listed k (by omega)];constructor
     ·intro h
      cases hl:listed.getD k false with
      | true=>exact .inr rfl
      | false=>exact .inl ((hdone k).1 (hnew k h hl)).1
     ·rintro (⟨D,hD⟩|h)
      ·exact hempty _ hD
      ·exact hmono k h
   rw[hact,hL];exact cont vals lo hi W hx hSW (fun p hp=>(hFd p hp ((hdone p.1).2 ⟨⟨p.2,hp⟩,hempty p hp⟩)).1) (fun hs p hp q hq=>(hiv hs).2 p.1 ((hdone p.1).2 ⟨⟨p.2,hp⟩,hempty p hp⟩) q.1 ((hdone q.1).2 ⟨⟨q.2,hq⟩,hempty q hq⟩)) (hL ▸ inv')
  | succ n ih =>
   intro L vals lo hi done W inv hSW hx hmono hdone hnew hFd hiv hn;refine⟨fun q=>absurd q (Zfh inv.size (fun i o ho=>(hops i o ho).2) z z rfl hz (inv.tail z (Nat.le_refl _) hz)),fun i hir=>?_⟩;obtain⟨hu,oi,hoi,haft⟩:=mem_ready.1 hir;have hil:=(Array.getElem?_eq_some_iff.1 hoi).1;have hu2:=getD_both hu
   have hli:listed.getD i false=false:=by
    cases hl:listed.getD i false with
    | false=>rfl
    | true=>rw[hmono i hl]at hu2;cases hu2
   have waits:∀ j,Region.waitsFor .any ops i j=true->L.getD j false=true:=by
    intro j h;obtain⟨o',ho',e',he',hb,hon⟩:=Region.waitsFor_spec h;have:o'=oi:=Option.some.inj (ho'.symm.trans hoi);subst this;have:=haft e' he' hb;rwa[hon]at this
   have hin:∃ D,(i,D)∈sp:=by
    rcases hcov i hil hli with h|h|⟨j,hj,h1,h2,h3⟩
    ·exact h
    ·exfalso;subst h;have:0<(sp.filter (fun p=>!L.getD p.1 false)).length:=by omega
     obtain⟨p,hp⟩:=List.exists_mem_of_length_pos this;obtain⟨hp1,hp2⟩:=List.mem_filter.1 hp
     have deep:∀ (m:Nat) (p:Nat × List Nat),z-p.1=m->p∈sp->L.getD p.1 false=false->False:=by
      intro m
      induction m using Nat.strongRecOn with
      | _ m ihm =>
       intro p hm hp hl;have hpz:=(hsp p hp).1;rcases (hsp p hp).2.2.2 with h|⟨q,hq,h1,h2⟩
       ·rw[waits _ h]at hl;cases hl
       ·have hqz:=(hsp q hq).1;refine ihm (z-q.1) (by omega) q rfl hq ?_
        cases hlq:L.getD q.1 false with
        | false=>rfl
        | true =>
         obtain⟨o',ho',e',he',hb,hon⟩:=Region.waitsFor_spec h2;have:=inv.closed q.1 o' ho' hlq e' he' hb;rw[hon,hl]at this;cases this
     exact deep _ p rfl hp1 (by simpa using hp2)
    ·exfalso;have:=hnew j (waits j h1) h2;exact h3 ((hdone j).1 this).1
   obtain⟨D,hD⟩:=hin;have hiz:i<z:=(hsp _ hD).1;have hg:=(hops i oi hoi).1 hli;have hokp:=(hsp _ hD).2.2.1;unfold Zih at hokp;simp only[Bool.and_eq_true,List.all_eq_true,List.any_eq_true,hoi]at hokp;obtain⟨hk1,hk2,_⟩:=hokp
   have hDd:∀ e∈D,e∈done/\∃ D',(e,D')∈sp:=by
    intro e he;obtain⟨h1,q,hq,h2⟩:=hk1 e he;obtain rfl:q.1=e:=by simpa using h2
    exact⟨(hdone q.1).2 ⟨⟨q.2,hq⟩,waits _ h1⟩,q.2,hq⟩
   have hag:∀ t∈oi.looksAt ops,(Xb ops vals done a).tmps[t]? = (Xb ops vals D a).tmps[t]?:=by
    intro t ht;by_cases hx:∃ p∈sp,Xg ops p.1=some t
    ·obtain⟨p,hp,hd⟩:=hx
     have hpD:p.1∈D:=by
      have:=hk2 t ht p hp;rw[hd]at this;simpa using this
     by_cases hs:t<a.tmps.size
     ·rw[Qk done a (fun j hj q=>?_) (hDd _ hpD).1 hd hs,Qk D a (fun j hj q=>?_) hpD hd hs]
      ·obtain⟨D',hD'⟩:=(hDd j hj).2;exact hdst p hp _ hD' t hd q
      ·obtain⟨D',hD'⟩:=((hdone j).1 hj).1;exact hdst p hp _ hD' t hd q
     ·rw[Array.getElem?_eq_none (by rw[V3];exact Nat.le_of_not_lt hs),Array.getElem?_eq_none (by rw[V3];exact Nat.le_of_not_lt hs)]
    ·rw[V4 done a (fun e he q=>?_),V4 D a (fun e he q=>?_)]
     ·obtain⟨D',hD'⟩:=(hDd e he).2;exact hx ⟨_,hD',q⟩
     ·obtain⟨D',hD'⟩:=((hdone e).1 he).1;exact hx ⟨_,hD',q⟩
   unfold wpOp;simp only[hoi,Fy hg,if_true];left
   refine wp_move (b:=Xb ops vals D a) (R:=fun v W'=>E W W'/\F i v (D.map vals) W.heap.size W'.heap.size W') (Zap oi (fun cs b=>hsel i oi cs b hoi) hag) (by rw[V3,V3])
    (spec _ hD oi hoi vals W hSW (fun e he=>?_) _ _ (fun v a' W' e1 e2 e3=>⟨v,e1,e2,e3⟩)) ?_
   ·obtain⟨h1,D',h2⟩:=hDd e he;exact⟨_,_,_,(hFd _ h2 h1).1⟩
   ·rintro v W' ⟨hx',hFv⟩;refine⟨fun _=>hS W W' hSW hx',?_⟩
    have hdi:i ∉ done:=fun q=>by
     have:=((hdone i).1 q).2;rw[hu2]at this;cases this
    have hact:(Xb ops vals done a).put oi.dst v=Xb ops (fun k=>if k=i then v else vals k) (done++[i]) a:=by
     have hc:=Kj (ops:=ops) (vals:=vals) (vals':=fun k=>if k=i then v else vals k) done a (fun k hk=>by
      have hki:k≠i:=fun e=>hdi (e ▸ hk)
      show vals k=if k=i then v else vals k
      rw[if_neg hki])
     rw[Mz,if_pos rfl,hc];unfold Xg;rw[hoi];rfl
    rw[hact]
    have hset:∀ k,(L.setIfInBounds i true).getD k false=true ↔ k=i\/L.getD k false=true:=by
     intro k;by_cases hk:k=i
     ·subst hk;rw[Array.getD_eq_getD_getElem?,Array.getElem?_setIfInBounds_self_of_lt (by rw[inv.size];omega)];simp
     ·rw[getD_set_ne false (Ne.symm hk)];simp[hk]
    refine ih _ (fun k=>if k=i then v else vals k) (fun k=>if k=i then W.heap.size else lo k) (fun k=>if k=i then W'.heap.size else hi k) _ W' (inv.set hir hiz) (hS W W' hSW hx') (hE1 _ _ _ hx hx') (fun k hk=>(hset k).2 (.inr (hmono k hk))) (fun k=>?_) (fun k hk hl=>?_) (fun p hp hpd=>?_) (fun hs=>?_) ?_
    ·rw[List.mem_append,List.mem_singleton,hset k,hdone k];constructor
     ·rintro (⟨h1,h2⟩|rfl)
      ·exact⟨h1,.inr h2⟩
      ·exact⟨⟨D,hD⟩,.inl rfl⟩
     ·rintro⟨h1,rfl|h2⟩
      ·exact .inr rfl
      ·exact .inl ⟨h1,h2⟩
    ·rcases (hset k).1 hk with rfl|q
     ·simp
     ·exact List.mem_append_left _ (hnew k q hl)
    ·have hmap:∀ l:List Nat,(∀ e∈l,e∈done)->l.map (fun k=>if k=i then v else vals k)=l.map vals:=fun l hl=>List.map_congr_left fun e he=>by
      have hne:e≠i:=fun q=>hdi (by rw[<- q];exact hl e he)
      show (if e=i then v else vals e)=vals e;rw[if_neg hne]
     show F p.1 (if p.1=i then v else vals p.1) (p.2.map fun k=>if k=i then v else vals k) (if p.1=i then W.heap.size else lo p.1) (if p.1=i then W'.heap.size else hi p.1) W'/\_;by_cases e:p.1=i
     ·obtain⟨p1,p2⟩:=p;simp only at e;subst e
      have e2:p2=D:=by
       have h1:=List.pairwise_map.1 hnd;rcases List.pairwise_iff_getElem.1 h1 with h1
       obtain⟨x,hx1,ex⟩:=List.getElem_of_mem hp;obtain⟨y,hy1,ey⟩:=List.getElem_of_mem hD;rcases Nat.lt_trichotomy x y with q|q|q
       ·exact absurd (by rw[ex,ey]) (h1 x y hx1 hy1 q)
       ·subst q;rw[ex]at ey;exact congrArg Prod.snd ey
       ·exact absurd (by rw[ex,ey]) (h1 y x hy1 hx1 q)
      subst e2;rw[if_pos rfl,if_pos rfl,if_pos rfl,hmap p2 (fun e he=>(hDd e he).1)];exact⟨hFv,fun e he=>List.mem_append_left _ (hDd e he).1⟩
     ·have hpd:p.1∈done:=by
       rcases List.mem_append.1 hpd with q|q
       ·exact q
       ·exact absurd (List.mem_singleton.1 q) e
      rw[if_neg e,if_neg e,if_neg e,hmap p.2 (hFd p hp hpd).2];exact⟨hF _ _ _ _ _ W W' hx' (hFd p hp hpd).1,fun e he=>List.mem_append_left _ ((hFd p hp hpd).2 e he)⟩
    ·have hm:=hs W W' hx';obtain⟨k1,k2⟩:=hiv hs;have hne:∀ j∈done,j≠i:=fun j hj q=>hdi (q ▸ hj)
     refine⟨fun j hj=>?_,fun j hj k hk hjk=>?_⟩
     ·show (if j=i then W'.heap.size else hi j)<=_;rcases List.mem_append.1 hj with q|q
      ·rw[if_neg (hne j q)];exact Nat.le_trans (k1 j q) hm
      ·rw[if_pos (List.mem_singleton.1 q)];exact Nat.le_refl _
     ·show (if j=i then W'.heap.size else hi j)<=(if k=i then W.heap.size else lo k)\/(if k=i then W'.heap.size else hi k)<=(if j=i then W.heap.size else lo j);rcases List.mem_append.1 hj with q|q <;> rcases List.mem_append.1 hk with r|r
      ·rw[if_neg (hne j q),if_neg (hne k r),if_neg (hne j q),if_neg (hne k r)];exact k2 j q k r hjk
      ·rw[if_neg (hne j q),if_pos (List.mem_singleton.1 r)];exact .inl (k1 j q)
      ·right;rw[if_neg (hne k r),if_pos (List.mem_singleton.1 q)];exact k1 k r
      ·exact absurd ((List.mem_singleton.1 q).trans (List.mem_singleton.1 r).symm) hjk
    ·have hnd':∀ (l:List (Nat × List Nat)) (n:Nat),(l.map (·.1)).Nodup->(i,D)∈l->(l.filter (fun p=>!L.getD p.1 false)).length=n+1->(l.filter (fun p=>!(L.setIfInBounds i true).getD p.1 false)).length=n:=by
      have same:∀ l:List (Nat × List Nat),i ∉ l.map (·.1)->l.filter (fun p=>!(L.setIfInBounds i true).getD p.1 false)=l.filter (fun p=>!L.getD p.1 false):=by
       intro l hl;apply List.filter_congr;intro p hp;rw[getD_set_ne false (fun e=>hl (List.mem_map.2 ⟨p,hp,e.symm⟩))]
      clear ih hn;intro l
      induction l with
      | nil=>intro n _ h;cases h
      | cons p l ihl =>
       intro n hnd hm hc;rw[List.map_cons,List.nodup_cons]at hnd;rcases List.mem_cons.1 hm with e|hm
       ·subst e;have h1:(L.setIfInBounds i true).getD i false=true:=(hset i).2 (.inl rfl);rw[List.filter_cons,show (!(L.setIfInBounds i true).getD i false)=false by rw[h1];rfl,if_neg (by simp),same l hnd.1];rw[List.filter_cons,show (!L.getD i false)=true by rw[hu2];rfl,if_pos rfl,List.length_cons]at hc;omega
       ·have hne:p.1≠i:=fun e=>hnd.1 (e ▸ List.mem_map.2 ⟨_,hm,rfl⟩)
        rw[List.filter_cons,getD_set_ne false (Ne.symm hne)];rw[List.filter_cons]at hc
        cases hq:(!L.getD p.1 false) with
        | true =>
         rw[hq,if_pos rfl,List.length_cons]at hc;rw[if_pos rfl,List.length_cons];have hpos:0<(l.filter (fun p=>!L.getD p.1 false)).length:=List.length_pos_of_mem (List.mem_filter.2 ⟨hm,by show (!L.getD i false)=true;rw[hu2];rfl⟩);obtain⟨m,rfl⟩:∃ m,n=m+1:=⟨n-1,by omega⟩;have:=ihl m hnd.2 hm (by omega);omega
        | false =>
         rw[hq,if_neg (by simp)]at hc;rw[if_neg (by simp)];exact ihl n hnd.2 hm hc
     exact hnd' sp n hnd hD hn
 subst hfu
 have hfil:(sp.filter (fun p=>!listed.getD p.1 false)).length=sp.length:=by
  rw[List.filter_eq_self.2 (fun p hp=>by rw[getD_both (hsp p hp).2.1];rfl)]
 refine main sp.length listed (fun _=>undef) (fun _=>0) (fun _=>0) [] w inv hSw (hE0 w) (fun _ h=>h) (fun i=>?_) (fun i h1 h2=>?_) (fun p _ h=>nomatch h) (fun _=>⟨fun _ h=>(nomatch h),fun _ h=>(nomatch h)⟩) hfil
 ·constructor
  ·intro h;cases h
  ·rintro⟨⟨D,hD⟩,h⟩;rw[getD_both (hsp _ hD).2.1]at h;cases h
 ·rw[h1]at h2;cases h2
theorem WZ.flowE{E:World->World->Prop}(hE0:∀ W,E W W)(hE1:∀ W1 W2 W3,E W1 W2->E W2 W3->E W1 W3){N:Nat}{listed:Array Bool}{a:Act}{w:World}(fuel t:Nat)(sp:List (Nat × List Nat))(F:Nat->Value->World->Prop)(hok:I2 ops z listed sp t=true)(hfu:N=fuel+sp.length)
  (hS:∀ W W',S W->E W W'->S W') (hF:∀ i v W W',E W W'->F i v W->F i v W') (hSw:S w) (spec:∀ p∈sp,Hc E P ops S F a p.1 p.2)
  (cont:∀ (vals:Nat->Value) (W:World),E w W->S W->(∀ p∈sp,F p.1 (vals p.1) W)->WZ P ops Q S z fuel (Ve sp listed) (Xb ops vals (sp.map (·.1)) a) W) :
  WZ P ops Q S z N listed a w :=
 WZ.flowI hE0 hE1 fuel t sp (fun i v _ _ _ W=>F i v W) hok hfu hS (fun i v _ _ _ W W'=>hF i v W W') hSw (fun p hp oi ho vals W hs hD=>spec p hp oi ho vals W hs (fun e he=>by obtain⟨_,_,_,h⟩:=hD e he;exact h)) (fun vals _ _ W h1 h2 h3 _=>cont vals W h1 h2 h3)
theorem WZ.flow{N:Nat}{listed:Array Bool}{a:Act}{w:World}(fuel t:Nat)(sp:List (Nat × List Nat))(F:Nat->Value->World->Prop)(hok:I2 ops z listed sp t=true)(hfu:N=fuel+sp.length)
  (hS:∀ W W',S W->Ext W W'->S W') (hF:∀ i v W W',Ext W W'->F i v W->F i v W') (hSw:S w) (spec:∀ p∈sp,Zhj P ops S F a p.1 p.2)
  (cont:∀ (vals:Nat->Value) (W:World),Ext w W->S W->(∀ p∈sp,F p.1 (vals p.1) W)->WZ P ops Q S z fuel (Ve sp listed) (Xb ops vals (sp.map (·.1)) a) W) :
  WZ P ops Q S z N listed a w :=
 WZ.flowE (fun _=>Fr.refl _ _) (fun _ _ _ f g=>f.trans g (fun _ _ e=>e)) fuel t sp F hok hfu hS hF hSw spec cont
def Z8(vals:Nat->Value):List (Nat × Tmp)->Act->Act
 | [],a=>a
 | p::l,a=>Z8 vals l (a.put (some p.2) (vals p.1))
theorem Ol:∀ (l:List (Nat × Tmp)) (a:Act),(∀ p∈l,Xg ops p.1=some p.2)->Z8 vals l a=Xb ops vals (l.map (·.1)) a
 | [],_,_=>rfl
 | p::l,a,h=>by
  rw[Z8,List.map_cons,Xb,h p (by simp)];exact Ol l _ (fun q hq=>h q (by simp[hq]))
def Hb(P:Program)(ops:Array Oper)(S:World->Prop)(F:Nat->Value->World->Prop)(a:Act)(p:Nat × Tmp × List (Nat × Tmp)):Prop :=
 ∃ oi,ops[p.1]? = some oi/\∀ (vals:Nat->Value) (W:World),S W->(∀ e∈p.2.2,F e.1 (vals e.1) W)->∀ (Q':Exit->Act->World->Prop) (K:Act->World->Prop),Shut (∀ v a' W',a'=(Z8 vals p.2.2 a).put (some p.2.1) v->Ext W W'->F p.1 v W'->K a' W')->Oper.wp P oi (Z8 vals p.2.2 a) W K Q'
def K4(ops:Array Oper)(z:Nat)(listed:Array Bool)(sp:List (Nat × Tmp × List (Nat × Tmp)))(t:Nat):Bool :=
 I2 ops z listed (sp.map fun p=>(p.1,p.2.2.map (·.1))) t&&sp.all (fun p=>Xg ops p.1==some p.2.1&&p.2.2.all fun e=>Xg ops e.1==some e.2)
theorem WZ.flowP{N:Nat}{listed:Array Bool}{a:Act}{w:World}(fuel t:Nat)(sp:List (Nat × Tmp × List (Nat × Tmp)))(F:Nat->Value->World->Prop)(hok:K4 ops z listed sp t=true)(hfu:N=fuel+sp.length)
  (hS:∀ W W',S W->Ext W W'->S W') (hF:∀ i v W W',Ext W W'->F i v W->F i v W') (hSw:S w) (spec:∀ p∈sp,Hb P ops S F a p)
  (cont:∀ (vals:Nat->Value) (W:World),Ext w W->S W->(∀ p∈sp,F p.1 (vals p.1) W)->WZ P ops Q S z fuel (Ve (sp.map fun p=>(p.1,p.2.2.map (·.1))) listed) (Z8 vals (sp.map fun p=>(p.1,p.2.1)) a) W) :
  WZ P ops Q S z N listed a w:=by
 unfold K4 at hok;rw[Bool.and_eq_true,List.all_eq_true]at hok
 have hd:∀ p∈sp,Xg ops p.1=some p.2.1/\∀ e∈p.2.2,Xg ops e.1=some e.2:=by
  intro p hp;have:=hok.2 p hp;rw[Bool.and_eq_true,List.all_eq_true]at this;exact⟨by simpa using this.1,fun e he=>by simpa using this.2 e he⟩
 refine WZ.flow fuel t (sp.map fun p=>(p.1,p.2.2.map (·.1))) F hok.1 (by rw[List.length_map];exact hfu) hS hF hSw (fun p hp=>?_) (fun vals W hx hSW hv=>?_)
 ·obtain⟨q,hq,rfl⟩:=List.mem_map.1 hp;obtain⟨oi,hoi,h⟩:=spec q hq;intro oj hoj vals W hSW hD Q' K hK;obtain rfl:oi=oj:=Option.some.inj (hoi.symm.trans hoj);have e:=Ol (vals:=vals) q.2.2 a (hd q hq).2
  have e2:oi.dst=some q.2.1:=by
   have:=(hd q hq).1;unfold Xg at this;rwa[hoi]at this
  show Oper.wp P oi (Xb ops vals (q.2.2.map (·.1)) a) W K Q';rw[<- e];refine h vals W hSW (fun x hx=>hD x.1 (List.mem_map.2 ⟨x,hx,rfl⟩)) Q' K (fun v a' W' h1 h2 h3=>hK v a' W' ?_ h2 h3);show a'=(Xb ops vals (q.2.2.map (·.1)) a).put oi.dst v;rw[h1,<- e,e2]
 ·have:=cont vals W hx hSW (fun p hp=>hv _ (List.mem_map.2 ⟨p,hp,rfl⟩));rw[Ol (ops:=ops) _ a (fun p hp=>by obtain⟨q,hq,rfl⟩:=List.mem_map.1 hp;exact (hd q hq).1)]at this;rw[List.map_map]at this⊢;exact this
def tab(l:List (Nat × (Value->World->Prop)))(i:Nat):Value->World->Prop:=((l.find? fun p=>p.1==i).map (·.2)).getD fun _ _=>True
theorem Zev{l:List (Nat × (Value->World->Prop))}(h:∀ p∈l,∀ v W W',Ext W W'->p.2 v W->p.2 v W'):∀ i v W W',Ext W W'->tab l i v W->tab l i v W':=by
 intro i v W W' f;unfold tab
 cases hq:l.find? fun p=>p.1==i with
 | none=>exact fun h=>h
 | some p=>exact h p (List.mem_of_find?_eq_some hq) v W W' f
theorem WZ.flowT{N:Nat}{listed:Array Bool}{a:Act}{w:World}(fuel t:Nat)(sp:List (Nat × Tmp × List (Nat × Tmp)))(R:List (Nat × (Value->World->Prop)))(hok:K4 ops z listed sp t=true)(hfu:N=fuel+sp.length)
  (hS:∀ W W',S W->Ext W W'->S W') (hR:∀ p∈R,∀ v W W',Ext W W'->p.2 v W->p.2 v W') (hSw:S w) (spec:∀ p∈sp,Hb P ops S (tab R) a p)
  (cont:∀ (vals:Nat->Value) (W:World),Ext w W->S W->(∀ p∈sp,tab R p.1 (vals p.1) W)->WZ P ops Q S z fuel (Ve (sp.map fun p=>(p.1,p.2.2.map (·.1))) listed) (Z8 vals (sp.map fun p=>(p.1,p.2.1)) a) W) :
  WZ P ops Q S z N listed a w:=WZ.flowP fuel t sp (tab R) hok hfu hS (Zev hR) hSw spec cont
def Wv(vals:Nat->Value):List (Nat × Option Tmp)->Act->Act
 | [],a=>a
 | p::l,a=>Wv vals l (a.put p.2 (vals p.1))
theorem Gm:∀ (l:List (Nat × Option Tmp)) (a:Act),(∀ p∈l,Xg ops p.1=p.2)->Wv vals l a=Xb ops vals (l.map (·.1)) a
 | [],_,_=>rfl
 | p::l,a,h=>by
  rw[Wv,List.map_cons,Xb,h p (by simp)];exact Gm l _ (fun q hq=>h q (by simp[hq]))
def Zef(E:World->World->Prop)(P:Program)(ops:Array Oper)(S:World->Prop)(F:Nat->Value->World->Prop)(a:Act)(p:Nat × Option Tmp × List (Nat × Option Tmp)):Prop :=
 ∃ oi,ops[p.1]? = some oi/\∀ (vals:Nat->Value) (W:World),S W->(∀ e∈p.2.2,F e.1 (vals e.1) W)->∀ (Q':Exit->Act->World->Prop) (K:Act->World->Prop),Shut (∀ v a' W',a'=(Wv vals p.2.2 a).put p.2.1 v->E W W'->F p.1 v W'->K a' W')->Oper.wp P oi (Wv vals p.2.2 a) W K Q'
def Zgk(ops:Array Oper)(z:Nat)(listed:Array Bool)(sp:List (Nat × Option Tmp × List (Nat × Option Tmp)))(t:Nat):Bool :=
 I2 ops z listed (sp.map fun p=>(p.1,p.2.2.map (·.1))) t&&sp.all (fun p=>Xg ops p.1==p.2.1&&p.2.2.all fun e=>Xg ops e.1==e.2)
theorem Zcz{E:World->World->Prop}{l:List (Nat × (Value->World->Prop))}(h:∀ p∈l,∀ v W W',E W W'->p.2 v W->p.2 v W'):∀ i v W W',E W W'->tab l i v W->tab l i v W':=by
 intro i v W W' f;unfold tab
 cases hq:l.find? fun p=>p.1==i with
 | none=>exact fun h=>h
 | some p=>exact h p (List.mem_of_find?_eq_some hq) v W W' f
theorem WZ.flowO{E:World->World->Prop}(hE0:∀ W,E W W)(hE1:∀ W1 W2 W3,E W1 W2->E W2 W3->E W1 W3){N:Nat}{listed:Array Bool}{a:Act}{w:World}(fuel t:Nat)(sp:List (Nat × Option Tmp × List (Nat × Option Tmp)))(R:List (Nat × (Value->World->Prop)))(hok:Zgk ops z listed sp t=true)(hfu:N=fuel+sp.length)
  (hS:∀ W W',S W->E W W'->S W') (hR:∀ p∈R,∀ v W W',E W W'->p.2 v W->p.2 v W') (hSw:S w) (spec:∀ p∈sp,Zef E P ops S (tab R) a p)
  (cont:∀ (vals:Nat->Value) (W:World),E w W->S W->(∀ p∈sp,tab R p.1 (vals p.1) W)->WZ P ops Q S z fuel (Ve (sp.map fun p=>(p.1,p.2.2.map (·.1))) listed) (Wv vals (sp.map fun p=>(p.1,p.2.1)) a) W) :
  WZ P ops Q S z N listed a w:=by
 unfold Zgk at hok;rw[Bool.and_eq_true,List.all_eq_true]at hok
 have hd:∀ p∈sp,Xg ops p.1=p.2.1/\∀ e∈p.2.2,Xg ops e.1=e.2:=by
  intro p hp;have:=hok.2 p hp;rw[Bool.and_eq_true,List.all_eq_true]at this;exact⟨by simpa using this.1,fun e he=>by simpa using this.2 e he⟩
 refine WZ.flowE hE0 hE1 fuel t (sp.map fun p=>(p.1,p.2.2.map (·.1))) (tab R) hok.1 (by rw[List.length_map];exact hfu) hS (Zcz hR) hSw (fun p hp=>?_) (fun vals W hx hSW hv=>?_)
 ·obtain⟨q,hq,rfl⟩:=List.mem_map.1 hp;obtain⟨oi,hoi,h⟩:=spec q hq;intro oj hoj vals W hSW hD Q' K hK;obtain rfl:oi=oj:=Option.some.inj (hoi.symm.trans hoj);have e:=Gm (vals:=vals) q.2.2 a (hd q hq).2
  have e2:oi.dst=q.2.1:=by
   have:=(hd q hq).1;unfold Xg at this;rwa[hoi]at this
  show Oper.wp P oi (Xb ops vals (q.2.2.map (·.1)) a) W K Q';rw[<- e];refine h vals W hSW (fun x hx=>hD x.1 (List.mem_map.2 ⟨x,hx,rfl⟩)) Q' K (fun v a' W' h1 h2 h3=>hK v a' W' ?_ h2 h3);show a'=(Xb ops vals (q.2.2.map (·.1)) a).put oi.dst v;rw[h1,<- e,e2]
 ·have:=cont vals W hx hSW (fun p hp=>hv _ (List.mem_map.2 ⟨p,hp,rfl⟩));rw[Gm (ops:=ops) _ a (fun p hp=>by obtain⟨q,hq,rfl⟩:=List.mem_map.1 hp;exact (hd q hq).1)]at this;rw[List.map_map]at this⊢;exact this
def Bu(l:List (Nat × (Value->List Value->Nat->Nat->World->Prop)))(i:Nat):Value->List Value->Nat->Nat->World->Prop:=((l.find? fun p=>p.1==i).map (·.2)).getD fun _ _ _ _ _=>True
theorem Zc0{E:World->World->Prop}{l:List (Nat × (Value->List Value->Nat->Nat->World->Prop))}(h:∀ p∈l,∀ v us lo hi W W',E W W'->p.2 v us lo hi W->p.2 v us lo hi W'):∀ i v us lo hi W W',E W W'->Bu l i v us lo hi W->Bu l i v us lo hi W':=by
 intro i v us lo hi W W' f;unfold Bu
 cases hq:l.find? fun p=>p.1==i with
 | none=>exact fun h=>h
 | some p=>exact h p (List.mem_of_find?_eq_some hq) v us lo hi W W' f
def Zeg(P:Program)(ops:Array Oper)(S:World->Prop)(F:Nat->Value->List Value->Nat->Nat->World->Prop)(a:Act)(p:Nat × Tmp × List (Nat × Tmp)):Prop :=
 ∃ oi,ops[p.1]? = some oi/\∀ (vals:Nat->Value) (W:World),S W->(∀ e∈p.2.2,∃ us lo hi,F e.1 (vals e.1) us lo hi W)->∀ (Q':Exit->Act->World->Prop) (K:Act->World->Prop),Shut (∀ v a' W',a'=(Z8 vals p.2.2 a).put (some p.2.1) v->Ext W W'->F p.1 v (p.2.2.map fun e=>vals e.1) W.heap.size W'.heap.size W'->K a' W')->Oper.wp P oi (Z8 vals p.2.2 a) W K Q'
theorem WZ.flowJ{N:Nat}{listed:Array Bool}{a:Act}{w:World}(fuel t:Nat)(sp:List (Nat × Tmp × List (Nat × Tmp)))(R:List (Nat × (Value->List Value->Nat->Nat->World->Prop)))(hok:K4 ops z listed sp t=true)(hfu:N=fuel+sp.length)
  (hS:∀ W W',S W->Ext W W'->S W') (hR:∀ p∈R,∀ v us lo hi W W',Ext W W'->p.2 v us lo hi W->p.2 v us lo hi W') (hSw:S w) (spec:∀ p∈sp,Zeg P ops S (Bu R) a p)
  (cont:∀ (vals:Nat->Value) (lo hi:Nat->Nat) (W:World),Ext w W->S W->(∀ p∈sp,Bu R p.1 (vals p.1) (p.2.2.map fun e=>vals e.1) (lo p.1) (hi p.1) W)->(∀ p∈sp,∀ q∈sp,p.1≠q.1->hi p.1<=lo q.1\/hi q.1<=lo p.1)->WZ P ops Q S z fuel (Ve (sp.map fun p=>(p.1,p.2.2.map (·.1))) listed) (Z8 vals (sp.map fun p=>(p.1,p.2.1)) a) W) :
  WZ P ops Q S z N listed a w:=by
 unfold K4 at hok;rw[Bool.and_eq_true,List.all_eq_true]at hok
 have hd:∀ p∈sp,Xg ops p.1=some p.2.1/\∀ e∈p.2.2,Xg ops e.1=some e.2:=by
  intro p hp;have:=hok.2 p hp;rw[Bool.and_eq_true,List.all_eq_true]at this;exact⟨by simpa using this.1,fun e he=>by simpa using this.2 e he⟩
 refine WZ.flowI (fun _=>Fr.refl _ _) (fun _ _ _ f g=>f.trans g (fun _ _ e=>e)) fuel t (sp.map fun p=>(p.1,p.2.2.map (·.1))) (Bu R) hok.1 (by rw[List.length_map];exact hfu) hS (Zc0 hR) hSw (fun p hp=>?_) (fun vals lo hi W hx hSW hv hiv=>?_)
 ·obtain⟨q,hq,rfl⟩:=List.mem_map.1 hp;obtain⟨oi,hoi,h⟩:=spec q hq;intro oj hoj vals W hSW hD Q' K hK;obtain rfl:oi=oj:=Option.some.inj (hoi.symm.trans hoj);have e:=Ol (vals:=vals) q.2.2 a (hd q hq).2
  have e2:oi.dst=some q.2.1:=by
   have:=(hd q hq).1;unfold Xg at this;rwa[hoi]at this
  show Oper.wp P oi (Xb ops vals (q.2.2.map (·.1)) a) W K Q';rw[<- e];refine h vals W hSW (fun x hx=>hD x.1 (List.mem_map.2 ⟨x,hx,rfl⟩)) Q' K (fun v a' W' h1 h2 h3=>hK v a' W' ?_ h2 (by show Bu R q.1 v ((q.2.2.map (·.1)).map vals) _ _ W';rw[List.map_map];exact h3));show a'=(Xb ops vals (q.2.2.map (·.1)) a).put oi.dst v;rw[h1,<- e,e2]
 ·have:=cont vals lo hi W hx hSW (fun p hp=>by
   have:=hv _ (List.mem_map.2 ⟨p,hp,rfl⟩);simp only[List.map_map]at this
   exact this) (fun p hp q hq=>hiv (fun _ _ f=>f.size) _ (List.mem_map.2 ⟨p,hp,rfl⟩) _ (List.mem_map.2 ⟨q,hq,rfl⟩))
  rw[Ol (ops:=ops) _ a (fun p hp=>by obtain⟨q,hq,rfl⟩:=List.mem_map.1 hp;exact (hd q hq).1)]at this;rw[List.map_map]at this⊢;exact this
end
end
section
open Go.RowKit DT SS TR
abbrev Lk:TypeId:=216
theorem Ziq:Qx Tryz.prog Lk 4 80:=Rk (by kernel_rfl)
theorem Zay(w:World)(cs:List Value)(T:TypeId):∀ j u,cs[j]? = some u->(w.alloc (.cells cs.toArray T)).cell? ((⟨w.heap.size,0,none⟩:Addr).add j)=some u:=fun j u h=>by
 rw[Addr.add_lit,Nat.zero_add];exact cell_of (alloc_at w (.cells cs.toArray T)) j u (by simpa using h)
theorem Mc{w:World}{b:Nat}{cs:List Value}{T:TypeId}(h:w.heap[b]? = some (.cells cs.toArray T (0,0))):∀ j u,cs[j]? = some u->w.cell? ((⟨b,0,none⟩:Addr).add j)=some u:=fun j u hj=>by
 rw[Addr.add_lit,Nat.zero_add];exact cell_of h j u (by simpa using hj)
theorem Xz{w:World}{O:Nat->Prop}{xs:List ByteArray}{v:Value}(h:strs.R w O xs [v]):∃ A c,v = .slice A xs.length c:=by
 obtain⟨A,c,e,_⟩:=h;cases e;exact⟨A,c,rfl⟩
theorem Ez(us:List GRec)(A:Option Addr)(c:Nat)(w:World)(O:Nat->Prop)(h:tRec.At w O A us)(hl:us.length<=1000)(ht:∀ u∈us,u.tokens.length<=2147483647/\u.yomi.length<=2147483647) :
    Calls Tryz.prog 61 #[.slice A us.length c] w fun e w'=>∃ v,e = .returned v/\RowK tRec Lk v us w.heap.size w'/\Ext w w':=by
  have mixed:Tryz.prog.follows .mixedOrders=true:=by kernel_rfl
  obtain⟨n,hn⟩:∃ n,n=us.length:=⟨_,rfl⟩;have HU:=Lib.hid (And.intro h (And.intro ht hn));rw[<- hn]at hl⊢;clear h ht hn;go_enter Tryz.func61,Tryz.ntmps61
  go_wp2_with fail
  go_loopg [3,8] n (fun g1 v3 v8 wr=>∃ (i:Nat) (u:Value),v3=u/\v8 = .int .i64 (i:Int)/\i<=n/\n<=i+g1/\Hid (RowK tRec Lk u (us.take i) w.heap.size wr/\Ext w wr))
  case atStart=>exact⟨0,_,rfl,rfl,by omega,by omega,RowK.nil _,Fr.refl _ _⟩
  case round =>
    obtain⟨i,u,rfl,rfl,hi,hg,HR⟩:=hrel;by_cases hlt:i<n
    · have hlz:(i:Int)<(n:Int):=by omega
      have hz0:(0:Int)<=(i:Int):=by omega
      have hil:i<us.length:=by rw[<- HU.out.2.2];exact hlt
      obtain⟨b,o,p,q,rfl,_,hbl,hp,hq,hs1,hs2,e0,e1,e2,e3⟩:=Gh HU.out.1 i hil;have htl:=HU.out.2.1 _ (List.getElem_mem hil);have HT:Hid (us.take (i+1)=us.take i++[us[i]]):=List.take_succ_eq_append_getElem hil;have q0:=HR.out.2.cell e0 id;have q1:=HR.out.2.cell e1 id;have q2:=HR.out.2.cell e2 id;have q3:=HR.out.2.cell e3 id;have HX:=Lib.hid (And.intro (strs.ext (strs.mono (O':=fun k=>k<w.heap.size) (fun k hk _=>hk) hp) HR.out.2) (And.intro (strs.ext (strs.mono (O':=fun k=>k<w.heap.size) (fun k hk _=>hk) hq) HR.out.2) (And.intro htl (And.intro hs1 hs2))));obtain⟨Ap,cp,ep,_⟩:=hp;obtain⟨Aq,cq,eq,_⟩:=hq;cases ep;cases eq;have hwl:w.heap.size<=wr.heap.size:=HR.out.2.size;clear e0 e1 e2 e3 htl hs1 hs2;generalize us[i]=x at *;clear hil;have hlow:=HR.out.1.low;go_upto_region 5 with fail
      obtain⟨w1,hw1⟩:∃ W,W=wr.alloc (.cells #[.string x.text,.slice Ap x.tokens.length cp,.slice Aq x.yomi.length cq,.string x.pos] 53):=⟨_,rfl⟩;have X1:Ext wr w1:=by rw[hw1];exact (Fr.refl _ _).alloc _
      have hB1:w1.heap[wr.heap.size]? = some (.cells #[.string x.text,.slice Ap x.tokens.length cp,.slice Aq x.yomi.length cq,.string x.pos] 53 (0,0)):=by rw[hw1];exact alloc_at _ _
      have HSS:Hid (∀ W,Fr (fun j=>u3.ownBlock=some j) w1 W->W.cell? ⟨wr.heap.size,0,none⟩=some (.string x.text)/\W.cell? ⟨wr.heap.size,1,none⟩=some (.slice Ap x.tokens.length cp)/\W.cell? ⟨wr.heap.size,2,none⟩=some (.slice Aq x.yomi.length cq)/\W.cell? ⟨wr.heap.size,3,none⟩=some (.string x.pos)):=fun W f=>by
        have hb:=f.heap hB1 (fun e=>by have:=hlow _ e;omega);exact⟨cell_of hb 0 _ rfl,cell_of hb 1 _ rfl,cell_of hb 2 _ rfl,cell_of hb 3 _ rfl⟩
      have HK:=Lib.hid (And.intro (HR.out.1.ext X1) (HR.out.2.trans X1 (fun _ _ e=>e)));have HX1:=Lib.hid (And.intro (strs.ext HX.out.1 X1) (And.intro (strs.ext HX.out.2.1 X1) HX.out.2.2));have hs1:=X1.size;have HL:=Lib.hid HK.out.1.low;rw[<- hw1];clear hw1 hB1 X1 HR HX q0 q1 q2 q3 hlow;refine Yd 14 15 #[false,false,false,false,false,false,false,false,false,false,false,false,false,false,false] (fun W=>Fr (fun j=>u3.ownBlock=some j) w1 W/\W.cell? ⟨wr.heap.size,0,none⟩=some (.string x.text)/\W.cell? ⟨wr.heap.size,1,none⟩=some (.slice Ap x.tokens.length cp)/\W.cell? ⟨wr.heap.size,2,none⟩=some (.slice Aq x.yomi.length cq)/\W.cell? ⟨wr.heap.size,3,none⟩=some (.string x.pos)) mixed rfl rfl (⟨(Fr.refl _ w1).drew,HSS.out w1.drew ((Fr.refl _ w1).drew)⟩) (fun hS=>?_);refine WL.go [(0,12),(1,13),(2,14),(3,15),(4,16),(6,18),(7,19),(9,21),(10,22)] ?_;iterate 9 (refine WL.tk (v:=?_) rfl rfl (by kernel_rfl) (fun _ _ _ h=>h) (Or.inl ⟨by rfl,?_⟩) (by assumption) ?_;rotate_left;(focus (intro w hSw;(try obtain⟨sf,s0,s1,s2,s3⟩:=hSw);go_simp;(try with_reducible rfl)));simp only[Act.put,List.setIfInBounds_toArray,List.set_cons_zero,List.set_cons_succ])
      refine WZ.flowT 2 13 [(5,17,[]),(8,20,[]),(11,23,[(5,17),(8,20)]),(12,24,[(11,23)])]
        [(5,fun v W=>strs.R W (fun j=>w1.heap.size<=j) x.tokens [v]),(8,fun v W=>strs.R W (fun j=>w1.heap.size<=j) x.yomi [v]),
         (11,fun v W=>∃ p q,v = .agg #[.string x.text,p,q,.string x.pos]/\strs.R W (fun j=>w1.heap.size<=j) x.tokens [p]/\strs.R W (fun j=>w1.heap.size<=j) x.yomi [q]),
         (12,fun v W=>∃ b p q,v = .slice (some ⟨b,0,none⟩) 1 1/\W.heap[b]? = some (.cells #[.string x.text,p,q,.string x.pos] Lk (0,0))/\strs.R W (fun j=>w1.heap.size<=j) x.tokens [p]/\strs.R W (fun j=>w1.heap.size<=j) x.yomi [q])]
        (by kernel_rfl) rfl (fun W W' h f=>⟨h.1.ext f,HSS.out W' (h.1.ext f)⟩) ?_ (by assumption) ?_ (fun vals W hx hSw hv=>?_)
      · simp only[List.forall_mem_cons]
        exact⟨fun v W W' f h=>strs.ext h f,fun v W W' f h=>strs.ext h f,fun v W W' f ⟨p,q,e,h1,h2⟩=>⟨p,q,e,strs.ext h1 f,strs.ext h2 f⟩,fun v W W' f ⟨b,p,q,e,h0,h1,h2⟩=>⟨b,p,q,e,f.heap h0 id,strs.ext h1 f,strs.ext h2 f⟩,fun _ h=>nomatch h⟩
      · simp only[List.forall_mem_cons]
        refine⟨⟨_,rfl,fun vals W hSw hD Q' K hK=>?_⟩,⟨_,rfl,fun vals W hSw hD Q' K hK=>?_⟩,⟨_,rfl,fun vals W hSw hD Q' K hK=>?_⟩,⟨_,rfl,fun vals W hSw hD Q' K hK=>?_⟩,fun _ h=>nomatch h⟩
        · obtain⟨sf,s0,s1,s2,s3⟩:=hSw
          simp only[Z8];go_simp;go_wp2_with (go_at_call 95;refine (R2 (strs.keep HX1.out.1 sf (fun k _ ho e=>by have:=HL.out k e;omega)) HX1.out.2.2.1.1).mono ?_;rintro e w5 ⟨v,rfl,hr,hx⟩)
          exact hK.out v _ w5 rfl hx (strs.mono (fun _ _ h=>Nat.le_trans sf.size h) hr)
        · obtain⟨sf,s0,s1,s2,s3⟩:=hSw
          simp only[Z8];go_simp;go_wp2_with (go_at_call 95;refine (R2 (strs.keep HX1.out.2.1 sf (fun k _ ho e=>by have:=HL.out k e;omega)) HX1.out.2.2.1.2).mono ?_;rintro e w5 ⟨v,rfl,hr,hx⟩)
          exact hK.out v _ w5 rfl hx (strs.mono (fun _ _ h=>Nat.le_trans sf.size h) hr)
        · have h5:strs.R W (fun j=>w1.heap.size<=j) x.tokens [vals 5]:=hD (5,17) (by simp)
          have h8:strs.R W (fun j=>w1.heap.size<=j) x.yomi [vals 8]:=hD (8,20) (by simp);clear hD;simp only[Z8]at hK⊢;generalize vals 5=p at *;generalize vals 8=q at *;obtain⟨Ad,cd,rfl⟩:=Xz h5;obtain⟨Ae,ce,rfl⟩:=Xz h8;go_simp;exact hK.out _ _ W rfl (Fr.refl _ _) ⟨_,_,rfl,h5,h8⟩
        · have h11:∃ p q,vals 11 = .agg #[.string x.text,p,q,.string x.pos]/\strs.R W (fun j=>w1.heap.size<=j) x.tokens [p]/\strs.R W (fun j=>w1.heap.size<=j) x.yomi [q]:=hD (11,23) (by simp)
          clear hD;simp only[Z8]at hK⊢;generalize vals 11=v at *;obtain⟨p,q,rfl,h5,h8⟩:=h11;obtain⟨Ad,cd,rfl⟩:=Xz h5;obtain⟨Ae,ce,rfl⟩:=Xz h8;go_simp;exact hK.out _ _ _ rfl ((Fr.refl _ _).alloc _) ⟨_,_,_,rfl,alloc_at _ _,strs.ext h5 ((Fr.refl _ _).alloc _),strs.ext h8 ((Fr.refl _ _).alloc _)⟩
      · have h12:∃ b p q,vals 12 = .slice (some ⟨b,0,none⟩) 1 1/\W.heap[b]? = some (.cells #[.string x.text,p,q,.string x.pos] Lk (0,0))/\strs.R W (fun j=>w1.heap.size<=j) x.tokens [p]/\strs.R W (fun j=>w1.heap.size<=j) x.yomi [q]:=hv (12,24,[(11,23)]) (by simp)
        clear hv;simp only[Z8,List.map_cons,List.map_nil,Act.put,List.setIfInBounds_toArray,List.set_cons_zero,List.set_cons_succ];generalize vals 12=v at *;generalize vals 11=v11 at *;generalize vals 8=v8 at *;generalize vals 5=v5 at *;obtain⟨nb,p,q,rfl,h0,h5,h8⟩:=h12;have hW:w1.heap.size<=W.heap.size:=hx.size;have hnb:=(Array.getElem?_eq_some_iff.1 h0).1;have RKW:RowK tRec Lk u3 (us.take i) w.heap.size W:=(HK.out.1.ext ((Fr.refl _ w1).drew)).ext hx;have hlow:=RKW.low;refine WZ.one (i:=13) rfl (by kernel_rfl) (by decide) (fun K hK=>?_);refine RowK.op (by rfl) _ _ 120 (by rfl) x [.string x.text,p,q,.string x.pos] 80 ⟨nb,0,none⟩ Tryz.underlying120 Ziq (by decide) (by omega) (by rfl) (by rfl) RKW (by rw[List.length_take];omega) (by omega) (Mc h0) ⟨[.string x.text],_,rfl,⟨rfl,HX1.out.2.2.2.1⟩,[p],_,rfl,strs.mono (fun k _ h=>⟨by omega,fun e=>by have:=HL.out k e;omega⟩) h5,[q],_,rfl,strs.mono (fun k _ h=>⟨by omega,fun e=>by have:=HL.out k e;omega⟩) h8,rfl,HX1.out.2.2.2.2⟩ ?_;intro v' w6 hR6 hf6 _;refine hK.out _ _ (⟨hSw.1.then hf6,HSS.out _ (hSw.1.then hf6)⟩) (fun hSr5_13=>?_);clear hK K;try simp only[Act.put,List.setIfInBounds_toArray,List.set_cons_zero,List.set_cons_succ]
        refine WZ.last rfl (by kernel_rfl) (by kernel_rfl) (fun K hK=>?_);go_simp;refine hK.out _ _ ?_;clear hK K;go_wp2_with fail
        go_roundg (n-(i+1))
        case measure=>omega
        case rel=>exact⟨i+1,v',rfl,by go_num,by omega,by omega,by rw[HT.out];exact hR6,((HK.out.2.drew).trans hx (fun _ _ e=>e)).trans hf6 (fun j hj e=>by have:=HL.out j e;omega)⟩
    · obtain rfl:i=n:=by omega
      go_wp2_with fail
      first|go_ret|go_ret2
      refine⟨_,rfl,?_,HR.out.2⟩;have:=HR.out.1;rw[HU.out.2.2,List.take_length]at this;exact this
end
section
open Go.RowKit Go.Sort DT SS TR LT
theorem Zb3{τ:Type}{d:Ty τ}{kv:τ->Value}{k:Nat}(hsz:d.sz=k+1)(hd:∀ {w O x cs},d.R w O x cs->∃ rest,cs=kv x::rest){w:World}{O:Nat->Prop} :
  ∀ (xs:List τ) (es:List (List Value)) (t:Nat),es.length=xs.length->(∀ i (_:i<xs.length) (_:i<es.length),d.R w O xs[i] es[i])->∃ ds:List (El τ k),ds.map (·.key)=xs/\ds.map (El.enc kv)=es/\∀ i (h:i<ds.length),ds[i].tag=t+i
 | [],[],_,_,_=>⟨[],rfl,rfl,fun i h=>by simp at h⟩
 | x::xs,e::es,t,hl,h=>by
  have h0:=h 0 (by simp) (by simp);simp only[List.getElem_cons_zero]at h0;obtain⟨rest,rfl⟩:=hd h0;have hlen:=d.len h0;obtain⟨ds,h1,h2,h3⟩:=Zb3 hsz hd xs es (t+1) (by simpa using hl) (fun i hi hj=>by have:=h (i+1) (by simpa using hi) (by simpa using hj);simpa using this);refine⟨⟨x,rest,by simp at hlen;omega,fun v hv=>d.one h0 v (by simp[hv]),t⟩::ds,by simp[h1],by simp[h2,El.enc],fun i hi=>?_⟩
  cases i with
  | zero=>rfl
  | succ i=>simp only[List.getElem_cons_succ];rw[h3 i (by simpa using hi)];omega
theorem Uk{α:Type}(f:α->List Value)(l:List α):l.flatMap f=(l.map f).flatten:=List.flatMap_def
theorem Zc3(us:List GRec)(v:Value)(B:Nat)(w:World)(h:RowK tRec Lk v us B w)(hl:us.length<=1000) :
  Calls Tryz.prog 99 #[v,.func (.func 100) #[] #[]] w fun e w'=>e = .returned (.tuple #[])/\RowK tRec Lk v (Z2 Wu us) B w'/\Fr (fun j=>v.ownBlock=some j) w w':=by
 obtain⟨es,h0,ho,h1⟩:=h;obtain⟨ds,e1,e2,e3⟩:=Zb3 (kv:=M4) (k:=3) rfl (fun {w O x cs} hr=>by obtain⟨p,q,rfl,_⟩:=Qz hr;exact⟨_,rfl⟩) us es 0 h0 h1;have hdl:ds.length=us.length:=by rw[<- e1,List.length_map]
 rw[<- e2,<- Uk]at ho;refine (Zc4 B Lk us.length v ds w ho hdl (by omega) (fun i hi=>by rw[e3 i hi];omega)).mono ?_;rintro e w' ⟨rfl,ho',hf⟩;have hk:(Z2 (fun x y:El GRec 3=>Wu x.key y.key) ds).map (·.key)=Z2 Wu us:=by rw[<- e1];exact N2 Wu (·.key) ds
 have hsl:(Z2 Wu us).length=us.length:=(Zw _ _).length_eq;refine⟨rfl,⟨(Z2 (fun x y:El GRec 3=>Wu x.key y.key) ds).map (El.enc M4),by rw[<- hk,List.length_map,List.length_map],?_,fun i hi hj=>?_⟩,hf⟩
 ·rw[<- Uk,hsl];exact ho'
 ·have hi':i<(Z2 (fun x y:El GRec 3=>Wu x.key y.key) ds).length:=by rw[List.length_map]at hj;exact hj
  have hm:=(Zw (fun x y:El GRec 3=>Wu x.key y.key) ds).mem_iff.1 (List.getElem_mem hi');obtain⟨j,hj2,ej⟩:=List.getElem_of_mem hm;have r:=h1 j (by omega) (by omega)
  have k1:us[j]'(by omega)=(Z2 Wu us)[i]:=by
   have a:us[j]'(by omega)=ds[j].key:=by simp[<- e1]
   have b:(Z2 Wu us)[i]=(Z2 (fun x y:El GRec 3=>Wu x.key y.key) ds)[i].key:=by simp[<- hk]
   rw[a,b,ej]
  have k2:es[j]'(by omega)=((Z2 (fun x y:El GRec 3=>Wu x.key y.key) ds).map (El.enc M4))[i]:=by
   rw[List.getElem_map,<- ej];simp[<- e2]
  rw[k1,k2]at r;exact tRec.keep r hf (fun k _ q e=>q.2 e)
abbrev TUC:TypeId:=181
def Zex:Ty GRec:=.iso (.pair strs (.pair strs .str)) (fun u=>(u.tokens,u.yomi,u.pos))
theorem Zjt:Qx Tryz.prog TUC 3 64:=Rk (by kernel_rfl)
theorem O7:Qx Tryz.prog 9 1 16:=Rk (by kernel_rfl)
def Mr(ku:Nat)(us:List GRec)(H U:Nat)(w:World):Prop:=(H<=ku/\ku<U)/\∃ v,w.cell? ⟨ku,2,none⟩=some v/\(Ty.slice Zex).R w (fun j=>H<=j/\j<U) us [v]
theorem Mr.keep{ku H U:Nat}{us:List GRec}{S:Nat->Prop}{w w':World}(h:Mr ku us H U w)(f:Fr S w w')(hS:∀ b,H<=b->b<U->¬ S b):Mr ku us H U w':=by
 obtain⟨h0,v,h1,h2⟩:=h;exact⟨h0,v,f.cell h1 (hS _ h0.1 h0.2),(Ty.slice Zex).keep h2 f (fun k _ q=>hS k q.1 q.2)⟩
theorem RowK.texts{T:TypeId}{v:Value}{xs:List ByteArray}{B:Nat}{w:World}(h:RowK Ty.str T v xs B w):w.ownsRow B T 1 v xs.length (xs.map Value.string):=by
 obtain⟨es,h0,ho,h1⟩:=h
 have:es.flatten=xs.map Value.string:=by
  have:es=xs.map fun x=>[Value.string x]:=by
   apply List.ext_getElem (by rw[h0,List.length_map]);intro i a b;rw[List.getElem_map];exact (h1 i (by rw[List.length_map]at b;exact b) a).1
  rw[this,<- Uk];clear this h0 ho h1
  induction xs with
  | nil=>rfl
  | cons x l ih=>rw[List.flatMap_cons,ih];rfl
 rw[<- this];exact ho
theorem Zbq{w:World}{d:Ty ByteArray}{T:TypeId}{n B:Nat}{g:Nat}{cs:Array Value}(hd:d.sz=1)(h:w.heap[g]? = some (.cells cs T (0,0)))(hs:cs.size=n)(hn:n<=1000000)(hB:B<=g):RowK d T (.slice (some ⟨g,0,none⟩) 0 n) ([]:List ByteArray) B w:=by
 refine⟨[],rfl,⟨by simp,.inr ⟨g,n,cs,rfl,hB,h,Nat.zero_le _,by unfold maxLen;omega,by rw[hd,hs];omega,by simp⟩⟩,fun i h=>by simp at h⟩
def tV3:Ty (Value × Value × ByteArray) where
 sz:=3
 R:=fun _ _ x cs=>cs=[x.1,x.2.1,.string x.2.2]/\x.1.oneCell'=true/\x.2.1.oneCell'=true
 len:=fun h=>by rw[h.1];rfl
 one:=fun h u hu=>by
  rw[h.1]at hu;simp only[List.mem_cons,List.mem_nil_iff,or_false]at hu;rcases hu with rfl|rfl|rfl
  ·exact h.2.1
  ·exact h.2.2
  ·rfl
 mono:=fun _ h=>h
 move:=fun _ _ h=>h
theorem Zg5{ws:List ByteArray}(h:ws.Pairwise (fun a b=>Vc a b=true)):Asc ws:=h.imp (fun {a b} q=>P0 _ _ (fun z=>by
 have:=bytesLt_swo.trans _ _ _ q ((Xh b a).2 ((Zat _ _).1 z));rw[bytesLt_swo.irrefl]at this
 cases this))
theorem RowK.keepV{α:Type}{d:Ty α}{T:TypeId}{v:Value}{xs:List α}{B:Nat}{w w':World}{S:Nat->Prop}(h:RowK d T v xs B w)(f:Fr S w w')(hS:∀ j,v.ownBlock=some j->¬ S j)(hd:∀ {O x cs},d.R w O x cs->d.R w' O x cs):RowK d T v xs B w':=by
 obtain⟨es,h0,ho,h1⟩:=h;exact⟨es,h0,Zy ho f hS,fun i hi hj=>hd (h1 i hi hj)⟩
theorem Ze4{α β:Type}{d:Ty α}{d':Ty β}{w:World}{O:Nat->Prop}{xs:List α}{ys:List β}{v:Value}(h:(Ty.slice d).R w O xs [v])(hl:xs.length=ys.length)(hz:d.sz=d'.sz)(hr:∀ i (hi:i<xs.length) (hj:i<ys.length) cs,d.R w O xs[i] cs->d'.R w O ys[i] cs):(Ty.slice d').R w O ys [v]:=by
 obtain⟨A,c,e,h1,h2,h3,h4⟩:=h;refine⟨A,c,by rw[e,hl],by omega,h2,by omega,?_⟩;rcases h4 with rfl|⟨b,o,rfl,hb,hlt,hc⟩
 ·exact .inl (List.eq_nil_of_length_eq_zero hl.symm)
 ·exact .inr ⟨b,o,rfl,hb,hlt,fun i hi=>by
   obtain⟨cs,a1,a2⟩:=hc i (by omega)
   exact⟨cs,hr i (by omega) hi cs a1,fun j hj=>by rw[<- hz];exact a2 j hj⟩⟩
theorem Zi8{α:Type}{d:Ty α}{w:World}{O:Nat->Prop}{A:Option Addr}{xs:List α}(h:d.At w O A xs):d.At w (fun j=>O j/\j<w.heap.size) A xs:=by
 refine⟨h.1,h.2.imp id ?_⟩;rintro⟨b,o,e,hb,hl,hc⟩
 exact⟨b,o,e,⟨hb,hl⟩,hl,fun i hi=>by
  obtain⟨cs,h1,h2⟩:=hc i hi
  exact⟨cs,d.mono (fun k hk q=>⟨q,hk⟩) h1,h2⟩⟩
theorem Zax(w:World)(o:Obj)(cs:List Value)(T:TypeId):∀ j u,cs[j]? = some u->((w.alloc o).alloc (.cells cs.toArray T)).cell? ((⟨w.heap.size+1,0,none⟩:Addr).add j)=some u:=fun j u h=>by
 have:=Zay (w.alloc o) cs T j u h;rw[Za]at this;exact this
theorem Zfg{w:World}{O:Nat->Prop}{A:Option Addr}:∀ {us:List GRec},tRec.At w O A us->∃ es:List (Value × Value × ByteArray),es.length=us.length/\∀ i (hi:i<us.length) (hj:i<es.length),strs.R w O us[i].tokens [es[i].1]/\strs.R w O us[i].yomi [es[i].2.1]/\es[i].2.2=us[i].pos/\us[i].text.size<=9223372036854775807/\us[i].pos.size<=9223372036854775807 /\
  ∃ b o,A=some ⟨b,o,none⟩/\b<w.heap.size/\w.cell? ⟨b,o+i*4,none⟩=some (.string us[i].text)/\w.cell? ⟨b,o+i*4+1,none⟩=some es[i].1/\w.cell? ⟨b,o+i*4+2,none⟩=some es[i].2.1/\w.cell? ⟨b,o+i*4+3,none⟩=some (.string us[i].pos):=by
 intro us h
 have hall:∀ i:Nat,∃ e:Value × Value × ByteArray,∀ (hi:i<us.length),strs.R w O us[i].tokens [e.1]/\strs.R w O us[i].yomi [e.2.1]/\e.2.2=us[i].pos/\us[i].text.size<=9223372036854775807/\us[i].pos.size<=9223372036854775807 /\
  ∃ b o,A=some ⟨b,o,none⟩/\b<w.heap.size/\w.cell? ⟨b,o+i*4,none⟩=some (.string us[i].text)/\w.cell? ⟨b,o+i*4+1,none⟩=some e.1/\w.cell? ⟨b,o+i*4+2,none⟩=some e.2.1/\w.cell? ⟨b,o+i*4+3,none⟩=some (.string us[i].pos):=by
  intro i;by_cases hi:i<us.length
  ·obtain⟨b,o,p,q,rfl,_,hbl,h1,h2,h3,h4,e0,e1,e2,e3⟩:=Gh h i hi;exact⟨(p,q,us[i].pos),fun _=>⟨h1,h2,rfl,h3,h4,b,o,rfl,hbl,e0,e1,e2,e3⟩⟩
  ·exact⟨(undef,undef,.empty),fun q=>absurd q hi⟩
 obtain⟨f,hf⟩:=Classical.axiomOfChoice hall;refine⟨(List.range us.length).map f,by simp,fun i hi hj=>?_⟩;have e:((List.range us.length).map f)[i]=f i:=by simp
 rw[e];exact hf i hi
def Kl(ss:List GRec):Nat->ByteArray
 | 0=>⟨#[]⟩
 | k+1=>(ss.getD k default).text
theorem Zic{ss:List GRec}(h:Za2 ss)(i:Nat)(hi:i<ss.length):((Kl ss i).toList==ss[i].text.toList)=false:=by
 rw[beq_eq_false_iff_ne];intro e;have e:=toList_inj e
 cases i with
 | zero=>exact (Yz (h.plain _ (List.getElem_mem hi))).2.1 e.symm
 | succ k =>
  have hk:k<ss.length:=by omega
  have:=(List.pairwise_iff_getElem.1 h.asc) k (k+1) (by simpa using hk) (by simpa using hi) (by omega);rw[List.getElem_map,List.getElem_map]at this;replace e:(ss.getD k default).text=ss[k+1].text:=e;rw[List.getD_eq_getElem?_getD,List.getElem?_eq_getElem hk,Option.getD_some]at e;rw[e,bytesLt_swo.irrefl]at this;cases this
theorem Dl(us:List GRec)(v:Value)(B:Nat)(w0 w:World)(h:RowK tRec Lk v us B w)(hok:Za2 (Z2 Wu us))(hT:Tbs w0)(hx:Ext w0 w)(hB:w0.heap.size<=B)(hBw:B<=w.heap.size) :
  Calls Tryz.prog 62 #[v] w fun e w'=>∃ ku,e = .returned (.tuple #[.pointer (some ⟨ku,0,none⟩),.nilIface])/\Vw ku ((Z2 Wu us).map GRec.text) B w'.heap.size w'/\Mr ku (Z2 Wu us) B w'.heap.size w'/\Fr (fun j=>v.ownBlock=some j) w w':=by
 have hsl:(Z2 Wu us).length=us.length:=(Zw _ _).length_eq;have C1:=Zc3 us v B w h (by have:=hok.len;omega);have hlow:=h.low;obtain⟨A,c,hv⟩:=h.own;obtain⟨ss,hss⟩:∃ ss,ss=Z2 Wu us:=⟨_,rfl⟩;rw[<- hss]at hsl hok C1⊢;clear h hss;obtain⟨n,hn⟩:∃ n,n=us.length:=⟨_,rfl⟩;rw[<- hn]at hsl hv;have hln:=hok.len;have hp:=hok.pos;rw[hsl]at hln hp;have HO:=Lib.hid (And.intro hok (And.intro hT (And.intro hx (And.intro hB (And.intro hsl hlow)))));subst hv;clear hok hT hx hB hn hlow;obtain⟨is,his,hs0,hs1,hs2⟩:=info_parts Us
 have hmk:∀ W:World,(Instr.makeSlice 43 (.int .i64 0) (.int .i64 (n:Int))).run Tryz.prog W = .ok (.slice (some ⟨W.heap.size,0,none⟩) 0 n) (W.alloc (.cells (madeCells #[.string ⟨#[]⟩] n) 9)):=fun W=>by
  have:=run_make (P:=Tryz.prog) W 43 9 is _ Tryz.underlying43 his hs0 .i64 .i64 0 n (by omega) (by omega) (by rw[hs2];omega) (by omega);rw[hs1]at this;simpa [Value.cells] using this
 go_enter Tryz.func62,Tryz.ntmps62
 go_wp2_with (first|(go_at_call 99;refine C1.mono ?_;rintro e w1 ⟨rfl,hr,hf⟩;have H1:=Lib.hid (And.intro hr hf);clear hr hf C1)|fail)
 obtain⟨N,hN⟩:∃ N,N=w1.heap.size:=⟨_,rfl⟩;rw[<- hN];have hNw:w.heap.size<=N:=by rw[hN];exact H1.out.2.size
 have HS:=H1.out.1.slice;obtain⟨A',c',e,_,_,hat⟩:=HS;simp only[List.cons.injEq,Value.slice.injEq,and_true]at e;obtain⟨rfl,-,rfl⟩:=e;obtain⟨es,hes,hraw⟩:=Zfg (Zi8 hat);have HAT:=Lib.hid (And.intro hes hraw);have hBN:B<=N:=by omega
 have X1:Ext w1 ((w1.alloc (.cells (madeCells #[.string ⟨#[]⟩] n) 9)).alloc (.cells #[.slice none 0 0,.map none,.slice none 0 0] 184)):=((Fr.refl _ w1).alloc _).alloc _;have K1:((w1.alloc (.cells (madeCells #[.string ⟨#[]⟩] n) 9)).alloc (.cells #[.slice none 0 0,.map none,.slice none 0 0] 184)).heap[N]? = some (.cells (madeCells #[.string ⟨#[]⟩] n) 9 (0,0)):=((Fr.refl (fun _=>False) _).alloc _).heap (alloc_at' _ _ hN) id;have K2:((w1.alloc (.cells (madeCells #[.string ⟨#[]⟩] n) 9)).alloc (.cells #[.slice none 0 0,.map none,.slice none 0 0] 184)).heap[N+1]? = some (.cells #[.slice none 0 0,.map none,.slice none 0 0] 184 (0,0)):=alloc_at' _ _ (by rw[Za,hN]);have X0:Ext w0 w1:=HO.out.2.2.1.trans H1.out.2 (fun j hj e=>by have:=HO.out.2.2.2.2.2 j e;have:=HO.out.2.2.2.1;omega);have HX:=Lib.hid (And.intro X0 hN);have mk:(madeCells #[.string ⟨#[]⟩] n).size=n:=by simp[madeCells]
 go_loopg [4,5,20] n (fun g1 v4 v5 v20 wr=>∃ (i:Nat) (u v6:Value),v5=u/\v20 = .int .i64 (i:Int)/\i<=n/\n<=i+g1/\v4 = .string (Kl ss i)/\Hid (RowK Ty.str 9 u ((ss.take i).map GRec.text) N wr/\RowK tV3 TUC v6 (es.take i) N wr/\wr.heap[N+1]? = some (.cells #[.slice none 0 0,.map none,v6] 184 (0,0))/\(∀ j,u.ownBlock=some j->v6.ownBlock≠some j/\j≠N+1)/\(∀ j,v6.ownBlock=some j->N<=j/\j≠N+1)/\Ext w1 wr))
 case atStart=>exact⟨0,_,.slice none 0 0,rfl,rfl,by omega,by omega,rfl,Zbq rfl K1 mk (by omega) (Nat.le_refl _),RowK.nil _,K2,(fun j e=>by simp[Value.ownBlock]at e;subst e;exact⟨by simp[Value.ownBlock],by omega⟩),(fun j e=>by simp[Value.ownBlock]at e),X1⟩
 case round =>
  clear X1 K1 K2 mk X0 hN hat;obtain⟨i,u,v6,rfl,rfl,hi,hg,rfl,HR⟩:=hrel;by_cases hlt:i<n
  ·have hlz:(i:Int)<(n:Int):=by omega
   have hz0:(0:Int)<=(i:Int):=by omega
   have hil:i<ss.length:=by omega
   obtain⟨hp1,hq1,hpe,hs1',hs2',b,o,rfl,hbl,e0,e1,e2,e3⟩:=HAT.out.2 i hil (by rw[HAT.out.1];exact hil);have q0:=HR.out.2.2.2.2.2.cell e0 id;have q1:=HR.out.2.2.2.2.2.cell e1 id;have q2:=HR.out.2.2.2.2.2.cell e2 id;have q3:=HR.out.2.2.2.2.2.cell e3 id;have HM:=List.getElem_mem hil;have htk:=HO.out.1.toks _ HM
   have CT:Hid (∀ W,Ext w0 W->Calls Tryz.prog 101 #[.string ss[i].text] W fun e w'=>e = .returned (.string ss[i].text)/\Ext W w'):=fun W f=>by
    have:=Zeo ss[i].text W (by have:=HO.out.1.size _ HM;omega) (HO.out.2.1.ext f);rw[HO.out.1.trim _ HM]at this;exact this
   have hpv:((Kl ss i).toList==ss[i].text.toList)=false:=Zic HO.out.1 i hil;have hie:i<es.length:=by rw[HAT.out.1];exact hil
   have HT:Hid (ss.take (i+1)=ss.take i++[ss[i]]/\es.take (i+1)=es.take i++[es[i]]/\Kl ss (i+1)=ss[i].text):=⟨List.take_succ_eq_append_getElem hil,List.take_succ_eq_append_getElem hie,by show (ss.getD i default).text=_;rw[List.getD_eq_getElem?_getD,List.getElem?_eq_getElem hil];rfl⟩;have HPQ:=Lib.hid (And.intro hp1 (And.intro hq1 (And.intro hs1' hs2')));obtain⟨Ap,cp,z1⟩:=Xz hp1;obtain⟨Aq,cq,z2⟩:=Xz hq1;rw[z1]at q1;rw[z2]at q2;have hk0:((ss[i].tokens.length:Int)==0)=false:=beq_eq_false_iff_ne.2 (by omega);have hk1:((ss[i].tokens.length:Int) != (ss[i].yomi.length:Int))=false:=bne_eq_false_iff_eq.2 (by omega);clear e0 e1 e2 e3 HM htk hs1' hs2' hes hraw;have HZ:=Lib.hid (And.intro z1 (And.intro z2 hpe));clear z1 z2 hpe hp1 hq1;generalize hxx:ss[i]=x at *;generalize Kl ss i=pv at *;obtain⟨ev,hev⟩:∃ ev,ev=es[i]:=⟨_,rfl⟩;rw[<- hev]at HT HPQ HZ;obtain⟨A6,c6,e6⟩:=HR.out.2.1.own;rw[List.length_take,Nat.min_eq_left (by omega)]at e6;subst e6;have HL:=Lib.hid (And.intro HR.out.1.low HR.out.2.1.low);have hwl:N+1<wr.heap.size:=(Array.getElem?_eq_some_iff.1 HR.out.2.2.1).1;clear hev hxx;obtain⟨rb,hrb⟩:∃ rb,rb=wr.heap.size:=⟨_,rfl⟩;go_upto_region 8 with fail
   have hbx:=alloc_at wr (.cells #[.string x.text,.slice Ap x.tokens.length cp,.slice Aq x.yomi.length cq,.string x.pos] Lk);have XA:Ext wr (wr.alloc (.cells #[.string x.text,.slice Ap x.tokens.length cp,.slice Aq x.yomi.length cq,.string x.pos] Lk)):=(Fr.refl _ _).alloc _;rw[<- hrb]at hbx⊢;have HXA:=Lib.hid (And.intro XA hrb);clear XA q0 q1 q2 q3;generalize wr.alloc _=wa at *;have b0:=cell_of hbx 0 (.string x.text) rfl;have HBX:=Lib.hid hbx;have lb0:=lt_of_cell b0;clear hbx hrb
   go_wp2_with (first
    | (go_at_call 101;refine (CT.out _ (HX.out.1.trans (HR.out.2.2.2.2.2.trans HXA.out.1 (fun _ _ e=>e)) (fun _ _ e=>e))).mono ?_;rintro e w5 ⟨rfl,hx5⟩;have hb5:=hx5.heap HBX.out id;have F5:=Lib.hid (And.intro (HXA.out.1.ext hx5) hb5);have hl5:=F5.out.1.size;clear hx5 hb5)
    | (at_builtin;refine RowK.lst (v:=u5) rfl _ _ 43 rfl x.text [.string x.text] 16 ⟨w5.heap.size,0,none⟩ Tryz.underlying43 O7 (by decide) (by omega) rfl rfl (HR.out.1.ext (F5.out.1.alloc _)) (by rw[List.length_map,List.length_take];omega) (by simp;omega) (Z4 _ _) ⟨rfl,HPQ.out.2.2.1⟩ ?_;intro u' w6 hR6 hf6 ha6;have hb6:=hf6.heap (((Fr.refl (fun _=>False) w5).alloc _).heap F5.out.2 id) (fun e=>by have:=(HL.out.1 _ e).2;have:=HXA.out.2;omega);have hk6:=hf6.heap ((F5.out.1.alloc _).heap HR.out.2.2.1 id) (fun e=>(HR.out.2.2.2.1 _ e).2 rfl);have c1:=cell_of hb6 1 (.slice Ap x.tokens.length cp) rfl;have c2:=cell_of hb6 2 (.slice Aq x.yomi.length cq) rfl;have c3:=cell_of hb6 3 (.string x.pos) rfl;have d2:=cell_of hk6 2 (.slice A6 i c6) rfl;have lc:rb<w6.heap.size:=lt_of_cell c1;have ld:N+1<w6.heap.size:=lt_of_cell d2;have H6:=Lib.hid (And.intro hR6 (And.intro (hf6.trans (Fr.refl _ w6) (fun _ _ e=>e)) (And.intro ha6 hk6)));clear hR6 hf6 ha6 hb6 hk6)
    | (at_builtin;refine RowK.lst (v:=.slice A6 i c6) rfl _ _ 182 rfl ev [.slice Ap x.tokens.length cp,.slice Aq x.yomi.length cq,.string x.pos] 64 ⟨w6.heap.size+1,0,none⟩ Tryz.underlying182 Zjt (by decide) (by omega) rfl rfl ((RowK.keepV (HR.out.2.1.ext (F5.out.1.alloc _)) H6.out.2.1 (fun j e q=>(HR.out.2.2.2.1 j q).1 e) (fun h=>h)).ext (((Fr.refl _ w6).alloc _).alloc _)) (by rw[List.length_take];omega) (by simp;omega) (Zax _ _ _ _) ⟨by rw[HZ.out.1,HZ.out.2.1,HZ.out.2.2],by rw[HZ.out.1];rfl,by rw[HZ.out.2.1];rfl⟩ ?_;intro v7 w7 hR7 hf7 ha7;obtain⟨A7,c7,e7⟩:=hR7.own;rw[List.length_append,List.length_take,Nat.min_eq_left (by omega)]at e7;subst e7;have hk7:=hf7.heap ((((Fr.refl (fun _=>False) w6).alloc _).alloc _).heap H6.out.2.2.2 id) (fun e=>(HR.out.2.2.2.2.1 _ e).2 rfl);have d7:=cell_of hk7 2 (.slice A6 i c6) rfl;have f7:=Zh hk7 2;have l7:N+1<w7.heap.size:=lt_of_cell d7;have H7:=Lib.hid (And.intro hR7 (And.intro hf7 (And.intro ha7 hk7)));clear hR7 hf7 ha7 hk7)
    | fail)
   go_roundg (n-(i+1))
   case measure=>omega
   case rel =>
    refine⟨i+1,u',.slice A7 (i+1) c7,rfl,by go_num,by omega,by omega,by rw[HT.out.2.2],?_⟩
    have hU:∀ j,u'.ownBlock=some j->(u5.ownBlock=some j/\j<wr.heap.size)\/j=w5.heap.size+1:=fun j e=>by
     rcases H6.out.2.2.1 with z|z
     ·rw[z]at e;exact .inl ⟨e,(HL.out.1 j e).2⟩
     ·rw[z,Za]at e;injection e with e;exact .inr e.symm
    have hV:∀ j,(Value.slice A7 (i+1) c7).ownBlock=some j->((Value.slice A6 i c6).ownBlock=some j/\j<wr.heap.size)\/j=w6.heap.size+2:=fun j e=>by
     rcases H7.out.2.2.1 with z|z
     ·rw[show (Value.slice A7 (i+1) c7).ownBlock=_ from z]at e;exact .inl ⟨e,(HL.out.2 j e).2⟩
     ·rw[show (Value.slice A7 (i+1) c7).ownBlock=_ from z,Za,Za]at e;injection e with e;exact .inr e.symm
    have hs6:w5.heap.size+1<=w6.heap.size:=by have:=H6.out.2.1.size;rw[Za]at this;exact this
    have F7:Fr (fun j=>(Value.slice A6 i c6).ownBlock=some j) w6 w7:=Fr.trans (S:=fun j=>(Value.slice A6 i c6).ownBlock=some j) (((Fr.refl _ w6).alloc _).alloc _) H7.out.2.1 (fun _ _ e=>e);have F8:Fr (fun j=>j=N+1) w7 (w7.setCell ⟨N+1,2,none⟩ (.slice A7 (i+1) c7)):=(Fr.refl _ w7).setCell _ _ (fun _=>rfl)
    have hUn:∀ j,u'.ownBlock=some j->j≠N+1:=fun j e=>by
     rcases hU j e with ⟨z,_⟩|z
     ·exact (HR.out.2.2.2.1 j z).2
     ·omega
    have hVn:∀ j,(Value.slice A7 (i+1) c7).ownBlock=some j->N<=j/\j≠N+1:=fun j e=>by
     rcases hV j e with ⟨z,_⟩|z
     ·exact HR.out.2.2.2.2.1 j z
     ·omega
    refine⟨?_,?_,Yo H7.out.2.2.2 2 _,fun j e=>⟨fun q=>?_,hUn j e⟩,hVn,?_⟩
    ·rw[HT.out.1,List.map_append];refine RowK.keepV (RowK.keepV H6.out.1 F7 (fun j e q=>?_) (fun h=>h)) F8 hUn (fun h=>h);rcases hU j e with ⟨z,_⟩|z
     ·exact (HR.out.2.2.2.1 j z).1 q
     ·have:=(HL.out.2 j q).2;omega
    ·rw[HT.out.2.1];exact RowK.keepV H7.out.1 F8 (fun j e=>(hVn j e).2) (fun h=>h)
    ·rcases hU j e with ⟨z,hz⟩|z <;> rcases hV j q with ⟨y,hy⟩|y
     ·exact (HR.out.2.2.2.1 j z).1 y
     ·omega
     ·omega
     ·omega
    ·have hN1:N=w1.heap.size:=HX.out.2;have E5:Ext w1 _:=HR.out.2.2.2.2.2.trans (F5.out.1.alloc (.cells #[.string x.text] 9)) (fun _ _ e=>e)
     have E6:Ext w1 w6:=E5.trans H6.out.2.1 (fun j hj e=>by
      have hj2:u5.ownBlock=some j:=e
      have:=(HL.out.1 j hj2).1;omega)
     have E7:Ext w1 w7:=E6.trans F7 (fun j hj e=>by have:=(HL.out.2 j e).1;omega);exact E7.trans F8 (fun j hj e=>by omega)
  ·obtain rfl:i=n:=by omega
   have HRR:=HR.out.1.texts;have htk:ss.take i=ss:=by rw[<- hsl];exact List.take_length
   have hte:es.take i=es:=by rw[<- hsl,<- hes];exact List.take_length
   rw[htk,List.length_map]at HRR;obtain⟨A6,c6,e6⟩:=HR.out.2.1.own;rw[hte,hes,hsl]at e6;subst e6;have CI:=Lib.hid (Kw (ss.map GRec.text) u5 ss.length wr (by rw[List.length_map]) (Vi HRR (Nat.zero_le _)) (Zg5 HO.out.1.asc) (fun x hx=>by obtain⟨u,hu,rfl⟩:=List.mem_map.1 hx;exact (Yz (HO.out.1.plain u hu)).2.1) (by rw[List.length_map];omega) (fun x hx=>by obtain⟨u,hu,rfl⟩:=List.mem_map.1 hx;exact (Yz (HO.out.1.plain u hu)).1) HO.out.1.sum);clear HRR hlt
   go_wp2_with (first
    | (go_at_call 97;refine CI.out.mono ?_;rintro e w2 ⟨hx2,g,m,mb,rfl,hg2,hm2,hi2⟩;have hk2:=hx2.heap HR.out.2.2.1 id;have d0:=cell_of hk2 0 (.slice none 0 0) rfl;have d1:=cell_of hk2 1 (.map none) rfl;have ff0:=Zh hk2 0;have ff1:=Zh hk2 1;have ld:N+1<w2.heap.size:=lt_of_cell d0;have H2:=Lib.hid (And.intro hx2 (And.intro hg2 (And.intro hm2 (And.intro hi2 hk2))));clear hx2 hg2 hm2 hi2 hk2)
    | fail)
   first|go_ret|go_ret2
   obtain⟨W,hW⟩:∃ W,W=(((w2.setCell ⟨N+1,0,none⟩ (.slice (some ⟨g,0,none⟩) m m)).setCell ⟨N+1,1,none⟩ (.map (some mb))).alloc (.cells #[.slice (some ⟨g,0,none⟩) m m,.map (some mb)] 166)):=⟨_,rfl⟩;have F:Fr (fun j=>j=N+1) w2 W:=by rw[hW];exact (((Fr.refl (fun j=>j=N+1) w2).setCell ⟨N+1,0,none⟩ _ (fun _=>rfl)).setCell ⟨N+1,1,none⟩ _ (fun _=>rfl)).alloc _
   have hkW:W.heap[N+1]? = some (.cells #[.slice (some ⟨g,0,none⟩) m m,.map (some mb),.slice A6 i c6] 184 (0,0)):=by
    rw[hW];exact ((Fr.refl (fun _=>False) _).alloc _).heap (Yo (Yo H2.out.2.2.2.2 0 _) 1 _) id
   rw[<- hW];have hN1:N=w1.heap.size:=HX.out.2;have hwl:N+1<wr.heap.size:=(Array.getElem?_eq_some_iff.1 HR.out.2.2.1).1;have lW:N+1<W.heap.size:=(Array.getElem?_eq_some_iff.1 hkW).1;have XW:Ext w1 W:=(HR.out.2.2.2.2.2.trans H2.out.1 (fun _ _ e=>e)).trans F (fun j hj e=>by omega);have hgl:=H2.out.2.1;have hml:=H2.out.2.2.1;obtain⟨g1,g2⟩:g<w2.heap.size/\mb<w2.heap.size:=H2.out.2.2.2.1.lt;have hsW:=F.size;refine⟨N+1,rfl,⟨g,m,mb,cell_of hkW 0 _ rfl,cell_of hkW 1 _ rfl,H2.out.2.2.2.1.keep F (by omega) (by omega),by omega,by omega,by omega⟩,⟨by omega,_,cell_of hkW 2 _ rfl,?_⟩,?_⟩
   ·have hV:RowK tV3 TUC (.slice A6 i c6) es N W:=by
     have:=RowK.keepV (HR.out.2.1.ext H2.out.1) F (fun j e=>(HR.out.2.2.2.2.1 j e).2) (fun h=>h);rw[hte]at this;exact this
    refine Ze4 ((Ty.slice tV3).mono (fun k hk q=>⟨by omega,hk⟩) hV.slice) hes rfl (fun k hk hj cs hc=>?_);obtain⟨h1,h2,h3,h4,h5,_⟩:=HAT.out.2 k hj hk;obtain⟨e1,_,_⟩:=hc;refine⟨[es[k].1],[es[k].2.1,.string ss[k].pos],by rw[e1,h3];rfl,?_,[es[k].2.1],[.string ss[k].pos],rfl,?_,⟨rfl,h5⟩⟩
    ·exact strs.mono (fun j hj q=>⟨q.1,hj⟩) (strs.ext h1 XW)
    ·exact strs.mono (fun j hj q=>⟨q.1,hj⟩) (strs.ext h2 XW)
   ·exact H1.out.2.ext XW
end
section
open Go.RowKit DT SS TR LT
theorem Vw.low{ku H H' U:Nat}{ks:List ByteArray}{w:World}(h:Vw ku ks H U w)(h1:H'<=H):Vw ku ks H' U w:=by
 obtain⟨g,n,mb,a,b,c,d,e,f⟩:=h;exact⟨g,n,mb,a,b,c,by omega,by omega,by omega⟩
theorem Mr.up{ku H H' U U':Nat}{us:List GRec}{w:World}(h:Mr ku us H U w)(h1:H'<=H)(h2:U<=U'):Mr ku us H' U' w:=by
 obtain⟨a,v,b,c⟩:=h;exact⟨by omega,v,b,(Ty.slice Zex).mono (fun k _ q=>⟨by omega,by omega⟩) c⟩
def tV1:Ty Value where
 sz:=1
 R:=fun _ _ x cs=>cs=[x]/\x.oneCell'=true
 len:=fun h=>by rw[h.1];rfl
 one:=fun h u hu=>by
  rw[h.1]at hu;rw[List.mem_singleton.1 hu];exact h.2
 mono:=fun _ h=>h
 move:=fun _ _ h=>h
theorem Zbw:Qx Tryz.prog 193 1 8:=Rk (by kernel_rfl)
theorem RowK.vals{T:TypeId}{A:Option Addr}{n c:Nat}{xs:List Value}{B:Nat}{w:World}(h:RowK tV1 T (.slice A n c) xs B w):∀ j (_:j<xs.length),∃ b o,A=some ⟨b,o,none⟩/\b<w.heap.size/\w.cell? ⟨b,o+j,none⟩=some xs[j]:=by
 intro j hj;obtain⟨A',c',e,_,_,_,hat⟩:=h.slice;simp only[List.cons.injEq,Value.slice.injEq,and_true]at e;obtain⟨rfl,-,rfl⟩:=e;rcases hat with rfl|⟨b,o,rfl,_,hb,hc⟩
 ·simp at hj
 ·obtain⟨cs,⟨rfl,_⟩,h2⟩:=hc j hj;have:=h2 0 (by simp);have e:o+j*tV1.sz+0=o+j:=by show o+j*1+0=_;omega
  exact⟨b,o,rfl,hb,by rw[<- e];exact this⟩
def Lz(d:Zf):List GRec:=Z2 Wu d.user
abbrev Ds(d:Zf):List ByteArray:=(Lz d).map GRec.text
theorem Iu{us:List GRec}(h:Za2 us):Yt (us.map GRec.text) :=
 ⟨Zg5 h.asc,fun x hx=>by obtain⟨u,hu,rfl⟩:=List.mem_map.1 hx;exact h.plain u hu,by rw[List.length_map];exact h.len⟩
theorem Bs(d:Zf)(cs:List Value)(O:Nat->Prop)(om:Bool)(w:World)(h:tDict.R w O d cs)(hT:Tbs w)(hd:DOk d)(hr:Zk d=true)(hu:d.hasUser=true)(hok:Za2 (Lz d))(hf:∀ u∈d.user,u.tokens.length<=2147483647/\u.yomi.length<=2147483647) :
  Calls Tryz.prog 57 #[.agg cs.toArray,.bool om] w fun e w'=>∃ tk kd H U ku,e = .returned (.tuple #[.pointer (some ⟨tk,0,none⟩),.int .i64 0])/\Zca d (some (ku,Ds d)) om tk kd H U w'/\Mr ku (Lz d) H U w'/\w.heap.size<=H/\Ext w w':=by
 have H:=Lib.hid (And.intro h hT);obtain⟨A1,c1,A2,c2,A3,c3,A4,c4,A5,c5,A6,c6,A7,c7,A8,c8,rfl,h1,h2,h3,h4,h5,h6,h7,h8,_⟩:=Yh h;have HA:=Lib.hid h8.2.2;clear h hT h1 h2 h3 h4 h5 h6 h7 h8;rw[hu]at H⊢;have HD:=Lib.hid (And.intro hd (And.intro hr (And.intro hu (And.intro hok hf))));have hul:d.user.length<=1000:=by have:=hok.len;unfold Lz at this;rwa[(Zw _ _).length_eq]at this
 clear hd hr hu hok hf;go_enter Tryz.func57,Tryz.ntmps57
 go_upto_region 10 with (first
  | (go_at_call 60;refine (P4 d _ O _ (tDict.ext H.out.1 ((Fr.refl _ w).alloc _)) (H.out.2.u8.ext ((Fr.refl _ w).alloc _)) HD.out.1 HD.out.2.1).mono ?_;rintro e w1 ⟨kd,U,rfl,hx,hy⟩;have b9:w1.cell? ⟨w.heap.size,9,none⟩=some (.bool true):=hy.cell (Zb (alloc_at _ _) 9 _ rfl) id;have b10:w1.cell? ⟨w.heap.size,10,none⟩=some (.slice A8 d.user.length c8):=hy.cell (Zb (alloc_at _ _) 10 _ rfl) id;have lb9:w.heap.size<w1.heap.size:=lt_of_cell b9;have HX:=Lib.hid (And.intro hx (And.intro hy (((Fr.refl (fun _=>False) w).alloc _).then hy)));clear hx hy)
  | (go_at_call 61;refine (Ez d.user A8 c8 w1 O (Yb HA.out HX.out.2.2) hul HD.out.2.2.2.2).mono ?_;rintro e w2 ⟨v,rfl,hr2,hx2⟩;have H2:=Lib.hid (And.intro hr2 hx2);clear hr2 hx2)
  | (go_at_call 62;refine (Dl d.user v w1.heap.size w w2 H2.out.1 HD.out.2.2.2.1 H.out.2 (HX.out.2.2.ext H2.out.2) (by omega) H2.out.2.size).mono ?_;rintro e w3 ⟨ku,rfl,hk3,hc3,hf3⟩;have H3:=Lib.hid (And.intro hk3 (And.intro hc3 (H2.out.2.trans hf3 (fun j hj e=>by have:=(H2.out.1.low j e).1;omega))));clear hk3 hc3 hf3)
  | (go_at_call 86;refine (Ea (some ⟨ku,0,none⟩) w3).mono ?_;rintro e w4 ⟨rfl,hc4,hx4⟩;have H4:=Lib.hid (And.intro hc4 hx4);clear hc4 hx4)
  | (at_builtin;refine RowK.lst (v:=.slice none 0 0) rfl _ _ 191 rfl (.func (.func 122) #[] #[.pointer (some ⟨w3.heap.size,0,none⟩)]) [.func (.func 122) #[] #[.pointer (some ⟨w3.heap.size,0,none⟩)]] 8 ⟨w4.heap.size,0,none⟩ Tryz.underlying191 Zbw (by decide) (by omega) rfl rfl (RowK.nil (d:=tV1) (B:=w4.heap.size) _) (by simp) (by simp) (Z4 _ _) ⟨rfl,rfl⟩ ?_;intro v5 w5 hR5 hf5 ha5;obtain⟨A9,c9,e9⟩:=hR5.own;subst e9;have H5:=Lib.hid (And.intro hR5 (Fr.trans (S:=fun _=>False) ((Fr.refl _ w4).alloc _) hf5 (fun j _ e=>by cases e)));clear hR5 hf5 ha5)
  | fail)
 obtain⟨hN,HN⟩:∃ hN,hN=w.heap.size+1:=⟨_,rfl⟩;have l12:=H2.out.2.size;have l13:=H3.out.2.2.size;have l34:w3.heap.size<w4.heap.size:=lt_of_cell H4.out.1;have l45:=H5.out.2.size;have hUl:=HX.out.1.lt;have hD1:=HX.out.1.keep H3.out.2.2 (fun _ _ _=>id);rw[Za,<- HN]at hD1;have W3:Zv d kd hN w3.heap.size w3/\Vw ku (Ds d) hN w3.heap.size w3/\Mr ku (Lz d) hN w3.heap.size w3/\Yt (Ds d):=⟨hD1.up (by omega) (Nat.le_refl _),Vw.low H3.out.1 (by omega),Mr.up H3.out.2.1 (by omega) (Nat.le_refl _),Iu HD.out.2.2.2.1⟩;have HW:=Lib.hid (And.intro W3 (HX.out.2.2.trans H3.out.2.2 (fun _ _ e=>e)));have HC:=Lib.hid (H5.out.2.cell H4.out.1 id)
 have fin:Hid (∀ tk w',w'.heap[tk]? = some (.cells (Yy kd (some ⟨ku,0,none⟩) om) 199 (0,0))->Ext w3 w'->Zca d (some (ku,Ds d)) om tk kd hN w3.heap.size w'/\Mr ku (Lz d) hN w3.heap.size w'/\w.heap.size<=hN/\Ext w w'):=fun tk w' h f3=>by
  exact⟨⟨h,HW.out.1.1.keep f3 (fun _ _ _=>id),fun x e=>by cases e;exact⟨HW.out.1.2.1.keep f3 (fun _ _ _=>id),HW.out.1.2.2.2⟩⟩,HW.out.1.2.2.1.keep f3 (fun _ _ _=>id),by omega,HW.out.2.trans f3 (fun _ _ e=>e)⟩
 clear W3 hD1 hUl HX;have X35:Ext w3 w5:=H4.out.2.trans H5.out.2 (fun _ _ e=>e);have ho1:∀ (t:Nat) (W:World),Fr (fun j=>w4.heap.size<=j) w5 W->w5.heap.size<=t->Zcc (.func (.func 122) #[] #[.pointer (some ⟨w3.heap.size,0,none⟩)]) t (Yy kd none false) (Yy kd (some ⟨ku,0,none⟩) false) W:=fun t W f ht=>Bo t w3.heap.size ⟨ku,0,none⟩ _ _ _ W (f.cell HC.out (by show ¬ w4.heap.size<=w3.heap.size;omega)) (by omega)
 cases om with
 | false =>
  have CN:=Lib.hid (Rc kd 1 c9 A9 [.func (.func 122) #[] #[.pointer (some ⟨w3.heap.size,0,none⟩)]] (fun j=>if j=0 then Yy kd none false else Yy kd (some ⟨ku,0,none⟩) false) w5 rfl (by omega) H5.out.1.vals rfl (fun j h=>by
   obtain rfl:j=0:=by simp at h;omega
   exact ho1 _ _ ((Fr.refl _ w5).alloc _) (Nat.le_refl _)))
  have HX35:=Lib.hid X35;clear X35
  go_wp2_with (first
   | (go_at_call 88;refine CN.out.mono ?_;rintro e w6 ⟨rfl,hx,hy⟩;have HY:=Lib.hid (And.intro hx hy);clear hx hy)
   | fail)
  first|go_ret|go_ret2
  exact⟨_,kd,_,_,ku,rfl,fin.out _ _ HY.out.1 (HX35.out.trans HY.out.2 (fun _ _ e=>e))⟩
 | true =>
  go_upto_region 12 with (first
   | (go_at_call 87;refine (Di _).mono ?_;rintro e w6 ⟨rfl,rfl⟩)
   | (at_builtin;refine RowK.lst (v:=.slice A9 1 c9) rfl _ _ 191 rfl (.func (.func 123) #[] #[]) [.func (.func 123) #[] #[]] 8 ⟨w6.heap.size,0,none⟩ Tryz.underlying191 Zbw (by decide) (by omega) rfl rfl (RowK.ext H5.out.1 ((Fr.refl _ _).alloc _)) (by simp) (by simp;omega) (Z4 _ _) ⟨rfl,rfl⟩ ?_;intro v7 w7 hR7 hf7 ha7;obtain⟨A7',c7',e7⟩:=hR7.own;subst e7;have H7:=Lib.hid (And.intro hR7 (Fr.trans (S:=fun j=>(Value.slice A9 1 c9).ownBlock=some j) ((Fr.refl _ w6).alloc _) hf7 (fun j _ e=>e)));clear hR7 hf7 ha7)
   | fail)
  have hlo:∀ j,(Value.slice A9 1 c9).ownBlock=some j->w4.heap.size<=j:=fun j e=>(H5.out.1.low j e).1
  have F7:Fr (fun j=>w4.heap.size<=j) w6 w7:=H7.out.2.mono (fun j _ e=>hlo j e);have X37:Ext w3 w7:=X35.trans F7 (fun j hj e=>by omega)
  have CN:=Lib.hid (Rc kd 2 c7' A7' [.func (.func 122) #[] #[.pointer (some ⟨w3.heap.size,0,none⟩)],.func (.func 123) #[] #[]] (fun j=>if j=0 then Yy kd none false else if j=1 then Yy kd (some ⟨ku,0,none⟩) false else Yy kd (some ⟨ku,0,none⟩) true) w7 rfl (by omega) H7.out.1.vals rfl (fun j h=>by
   have h:j<2:=h
   match j,h with
   | 0,_=>exact ho1 _ _ (F7.alloc _) F7.size
   | 1,_=>exact Zbm _ _ _ _ _))
  have HX37:=Lib.hid X37;clear X35 X37 F7 hlo ho1
  go_wp2_with (first
   | (go_at_call 88;refine CN.out.mono ?_;rintro e w8 ⟨rfl,hx,hy⟩;have HY:=Lib.hid (And.intro hx hy);clear hx hy)
   | fail)
  first|go_ret|go_ret2
  exact⟨_,kd,_,_,ku,rfl,fin.out _ _ HY.out.1 (HX37.out.trans HY.out.2 (fun _ _ e=>e))⟩
def usX(us:List GRec):XU:=⟨fun ku H U w=>Mr ku us H U w,fun h f hS=>h.keep f hS⟩
def Tu(d:Zf):Option (List ByteArray):=if d.hasUser then some (Ds d) else none
def xOf(d:Zf):XU:=if d.hasUser then usX (Lz d) else noX
def Ff(d:Zf):Prop:=d.hasUser=true->Za2 (Lz d)/\∀ u∈d.user,u.tokens.length<=2147483647/\u.yomi.length<=2147483647
theorem Ho{d:Zf}(h:Ff d):∀ ks,Tu d=some ks->Yt ks:=by
 intro ks e;unfold Tu at e
 split at e
 ·next hu=>cases e;exact Iu (h hu).1
 ·cases e
theorem Od(d:Zf)(cs:List Value)(O:Nat->Prop)(w:World)(h:tDict.R w O d cs)(hT:Tbs w)(hd:DOk d)(hr:Zk d=true)(hok:Ff d):Pb d cs (Tu d) (xOf d) w:=by
 cases hu:d.hasUser with
 | false =>
  unfold Tu xOf;rw[hu];exact Pf d cs O w h hT.u8 hd hr hu
 | true =>
  obtain⟨h1,h2⟩:=hok hu;unfold Tu xOf;rw[hu];intro om W f;refine (Bs d cs O om W (tDict.ext h f) (hT.ext f) hd hr hu h1 h2).mono ?_;rintro e w' ⟨tk,kd,H,U,ku,a,b,c,e',g⟩;exact⟨tk,kd,H,U,ku,a,b,c,e',g⟩
end
end Go.Proofs.YtoliamijgmifkaaGreatDoor
