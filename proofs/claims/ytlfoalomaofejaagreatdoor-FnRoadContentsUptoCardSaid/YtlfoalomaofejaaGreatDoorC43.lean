/- Stores to one block in whateve -/
import Derived.Test.YtlfoalomaofejaaGreatDoorC42
set_option linter.all false
namespace Go.Proofs.YtlfoalomaofejaaGreatDoor
open Go Go.RowKit DT SS TR LT
section
variable{gd:Nat}{T:TypeId}{tg:List Value}{W W' W'':World}
def Sr(gd:Nat)(T:TypeId)(tg:List Value)(W W':World):Prop:=Fr (λk=>k=gd) W W'/\∀ cs:List Value,W.heap[gd]?=some (.cells cs.toArray T (0,0))->cs.length=tg.length->∃ cs':List Value,W'.heap[gd]?=some (.cells cs'.toArray T (0,0))/\cs'.length=tg.length/\∀ j:Nat,cs[j]?=tg[j]? -> cs'[j]?=tg[j]?
theorem Sr.refl(W:World):Sr gd T tg W W:=⟨Fl W,λcs h hl=>⟨cs,h,hl,λ_ e=>e⟩⟩
theorem Sr.trans(h:Sr gd T tg W W')(k:Sr gd T tg W' W''):Sr gd T tg W W'':=by
 refine⟨h.1.then k.1,λcs hc hl=>?_⟩;obtain⟨cs',h1,h2,h3⟩:=h.2 cs hc hl;obtain⟨cs2,k1,k2,k3⟩:=k.2 cs' h1 h2;exact⟨cs2,k1,k2,λj e=>k3 j (h3 j e)⟩
theorem Sr.set(j:Nat)(v:Value)(hj:tg[j]?=some v):Sr gd T tg W (W.setCell ⟨gd,j,none⟩ v):=by
 refine⟨(Fr.refl (λk=>k=gd) W).setCell ⟨gd,j,none⟩ v (λ_=>rfl),λcs hc hl=>⟨cs.set j v,?_,by rw[List.length_set,hl],λi e=>?_⟩⟩
 ·have:=Yk hc j v;rwa[List.setIfInBounds_toArray]at this
 ·rw[List.getElem?_set];have hjl:=(Gl.1 hj).1
  split
  ·next q =>
   subst q;rw[hj]
   split
   ·rfl
   ·omega
  ·exact e
def Hh(gd:Nat)(T:TypeId)(tg:List Value)(dirty:List Nat)(W:World):Prop:=∃ cs:List Value,W.heap[gd]?=some (.cells cs.toArray T (0,0))/\cs.length=tg.length/\∀ j:Nat,j ∉ dirty->cs[j]?=tg[j]?
theorem Hh.keep{l:List Nat}(h:Hh gd T tg l W)(e:Sr gd T tg W W'):Hh gd T tg l W':=by
 obtain⟨cs,h1,h2,h3⟩:=h;obtain⟨cs',k1,k2,k3⟩:=e.2 cs h1 h2;exact⟨cs',k1,k2,λj hj=>k3 j (h3 j hj)⟩
theorem Hh.cell{l:List Nat}(h:Hh gd T tg l W)(j:Nat)(hj:j<tg.length):(∃ x,W.cell? ⟨gd,j,none⟩=some x)/\W.frozen? ⟨gd,j,none⟩=false/\gd<W.heap.size:=by
 obtain⟨cs,h1,h2,_⟩:=h;have hc:=cell_of h1 j (cs[j]' Om) (by simp[(Om:j<cs.length)]);exact⟨⟨_,hc⟩,Zi h1 j,lt_of_cell hc⟩
def Dn(gd:Nat)(T:TypeId)(tg:List Value)(j:Nat)(W:World):Prop:=∃ cs:List Value,W.heap[gd]?=some (.cells cs.toArray T (0,0))/\cs.length=tg.length/\cs[j]?=tg[j]?
theorem Dn.keep{j:Nat}(h:Dn gd T tg j W)(e:Sr gd T tg W W'):Dn gd T tg j W':=by
 obtain⟨cs,h1,h2,h3⟩:=h;obtain⟨cs',k1,k2,k3⟩:=e.2 cs h1 h2;exact⟨cs',k1,k2,k3 j h3⟩
theorem Hh.set{l:List Nat}(h:Hh gd T tg l W)(j:Nat)(v:Value)(hj:tg[j]?=some v):Dn gd T tg j (W.setCell ⟨gd,j,none⟩ v):=by
 obtain⟨cs,h1,h2,_⟩:=h;have hjl:=(Gl.1 hj).1;refine⟨cs.set j v,?_,by rw[List.length_set,h2],by rw[hj,List.getElem?_set_self Om]⟩;have:=Yk h1 j v;rwa[List.setIfInBounds_toArray]at this
theorem Hh.fin{l:List Nat}(h:Hh gd T tg l W)(hd:∀ j∈l,Dn gd T tg j W):W.heap[gd]?=some (.cells tg.toArray T (0,0)):=by
 obtain⟨cs,h1,h2,h3⟩:=h
 have:cs=tg:=by
  apply List.ext_getElem?;intro j;by_cases hj:j∈l
  ·obtain⟨cs',k1,_,k3⟩:=hd j hj;rw[h1]at k1;simp only[Option.some.injEq,Obj.cells.injEq,and_true]at k1;have:=congrArg Array.toList k1;simp only at this;rw[this];exact k3
  ·exact h3 j hj
 rw[<- this];exact h1
end
end Go.Proofs.YtlfoalomaofejaaGreatDoor
