/- Stores to one block in whateve -/
import Derived.Test.YtlfoalomaofejaaGreatDoorM40
set_option linter.all false
section
namespace Go.Proofs.YtlfoalomaofejaaGreatDoor
open Go.RowKit DT SS TR LT Go
theorem Zo2{w wr:World}{B G c n:Nat}{z:Option Addr}{A:Option Addr}{ts:List Y0}{S:Nat->Prop}(h:w.ownsRow B 137 9 (.slice A n c) n (ts.flatMap (Yn G z)))(f:Fr S w wr)(U:∀ j,B<=j->j<w.heap.size->¬ S j)(M:n=ts.length)(i:Nat)(hi:i<ts.length) :
  ∃ g,A=some ⟨g,0,none⟩/\g<wr.heap.size/\∀ j (I:j<9),wr.cell? ⟨g,i*9+j,none⟩=(Yn G z ts[i])[j]?:=by
 subst M
 have q:∀ j,j<9->∃ g,A=some ⟨g,0,none⟩/\wr.cell? ⟨g,i*9+j,none⟩=(Yn G z ts[i])[j]? /\ g<wr.heap.size:=λj I=>by
  obtain⟨g,c',e,K,L⟩:=V2 h (i*9+j) Om;simp only[Value.slice.injEq]at e;obtain⟨rfl,_,rfl⟩:=e;rw[flat_get (Yn G z) 9 (λ_=>rfl) ts i j hi I]at K;have V:j<(Yn G z ts[i]).length:=I;rw[Ge V]at K⊢;have J:=lt_of_cell K;exact⟨g,rfl,f.cell K (U g (Yo (g:=g) h L) J),Nat.lt_of_lt_of_le J f.size⟩
 obtain⟨g,rfl,_,L⟩:=q 0 Om;refine⟨g,rfl,L,λj I=>?_⟩;obtain⟨X,W,e,_⟩:=q j I;cases W;exact e
end Go.Proofs.YtlfoalomaofejaaGreatDoor
end
section
namespace Go.Proofs.YtlfoalomaofejaaGreatDoor
open Go Go.RowKit DT SS TR LT
section
variable{gd:Nat}{T:TypeId}{tg:List Value}{W W' W'':World}
def T3(gd:Nat)(T:TypeId)(tg:List Value)(W W':World):Prop:=Fr (λk=>k=gd) W W'/\∀ cs:List Value,W.heap[gd]?=some (.cells cs.toArray T (0,0))->cs.length=tg.length->∃ h:List Value,W'.heap[gd]?=some (.cells h.toArray T (0,0))/\h.length=tg.length/\∀ j:Nat,cs[j]?=tg[j]? -> h[j]?=tg[j]?
theorem T3.refl(W:World):T3 gd T tg W W:=⟨Fl W,λcs h hl=>⟨cs,h,hl,λ_ e=>e⟩⟩
theorem T3.trans(h:T3 gd T tg W W')(k:T3 gd T tg W' W''):T3 gd T tg W W'':=by
 refine⟨h.1.then k.1,λcs J hl=>?_⟩;obtain⟨z,h1,h2,h3⟩:=h.2 cs J hl;obtain⟨q,I,G,A⟩:=k.2 z h1 h2;exact⟨q,I,G,λj e=>A j (h3 j e)⟩
theorem T3.set(j:Nat)(v:Value)(h:tg[j]?=some v):T3 gd T tg W (W.setCell ⟨gd,j,none⟩ v):=by
 refine⟨(Fr.refl (λk=>k=gd) W).setCell ⟨gd,j,none⟩ v (λ_=>rfl),λcs A hl=>⟨cs.set j v,?_,by rw[List.length_set,hl],λi e=>?_⟩⟩
 ·have:=Yt A j v;rwa[List.setIfInBounds_toArray]at this
 ·rw[List.getElem?_set];have z:=(Gl.1 h).1
  split
  ·next q =>
   subst q;rw[h]
   split
   ·rfl
   ·omega
  ·exact e
def Gf(gd:Nat)(T:TypeId)(tg:List Value)(h:List Nat)(W:World):Prop:=∃ cs:List Value,W.heap[gd]?=some (.cells cs.toArray T (0,0))/\cs.length=tg.length/\∀ j:Nat,j ∉ h->cs[j]?=tg[j]?
theorem Gf.keep{l:List Nat}(h:Gf gd T tg l W)(e:T3 gd T tg W W'):Gf gd T tg l W':=by
 obtain⟨cs,h1,h2,h3⟩:=h;obtain⟨q,G,A,z⟩:=e.2 cs h1 h2;exact⟨q,G,A,λj I=>z j (h3 j I)⟩
theorem Gf.cell{l:List Nat}(h:Gf gd T tg l W)(j:Nat)(z:j<tg.length):(∃ x,W.cell? ⟨gd,j,none⟩=some x)/\W.frozen? ⟨gd,j,none⟩=false/\gd<W.heap.size:=by
 obtain⟨cs,h1,h2,_⟩:=h;have q:=cell_of h1 j (cs[j]' Om) (by simp[(Om:j<cs.length)]);exact⟨⟨_,q⟩,Zi h1 j,lt_of_cell q⟩
def Dn(gd:Nat)(T:TypeId)(tg:List Value)(j:Nat)(W:World):Prop:=∃ cs:List Value,W.heap[gd]?=some (.cells cs.toArray T (0,0))/\cs.length=tg.length/\cs[j]?=tg[j]?
theorem Dn.keep{j:Nat}(h:Dn gd T tg j W)(e:T3 gd T tg W W'):Dn gd T tg j W':=by
 obtain⟨cs,h1,h2,h3⟩:=h;obtain⟨q,G,A,z⟩:=e.2 cs h1 h2;exact⟨q,G,A,z j h3⟩
theorem Gf.set{l:List Nat}(h:Gf gd T tg l W)(j:Nat)(v:Value)(q:tg[j]?=some v):Dn gd T tg j (W.setCell ⟨gd,j,none⟩ v):=by
 obtain⟨cs,h1,h2,_⟩:=h;have z:=(Gl.1 q).1;refine⟨cs.set j v,?_,by rw[List.length_set,h2],by rw[q,List.getElem?_set_self Om]⟩;have:=Yt h1 j v;rwa[List.setIfInBounds_toArray]at this
theorem Gf.fin{l:List Nat}(h:Gf gd T tg l W)(hd:∀ j∈l,Dn gd T tg j W):W.heap[gd]?=some (.cells tg.toArray T (0,0)):=by
 obtain⟨cs,h1,h2,h3⟩:=h
 have:cs=tg:=by
  apply List.ext_getElem?;intro j;by_cases z:j∈l
  ·obtain⟨G,q,_,A⟩:=hd j z;rw[h1]at q;simp only[Option.some.injEq,Obj.cells.injEq,and_true]at q;have:=congrArg Array.toList q;simp only at this;rw[this];exact A
  ·exact h3 j z
 rw[<- this];exact h1
end
end Go.Proofs.YtlfoalomaofejaaGreatDoor
end
