/- An owned row of texts reads as -/
import Derived.Test.YtlfoalomaofejaaGreatDoorC4
set_option linter.all false
namespace Go.Proofs.YtlfoalomaofejaaGreatDoor
open Go.RowKit DT
theorem Wq{w:World}{B:Nat}{v:Value}{xs:List ByteArray}(h:w.ownsRow B 9 1 v xs.length (xs.map Value.string))(hs:∀ x∈xs,x.size<=9223372036854775807):strs.R w (λj=>B<=j) xs [v]:=by
 obtain⟨_,⟨rfl,hn⟩|⟨g,cap,cur,rfl,hb,hc,h2,h3,h4,h5⟩⟩:=h
 ·have:xs=[]:=List.eq_nil_of_length_eq_zero hn;subst this;exact⟨none,0,rfl,Nl _,λ_=>rfl,by simp,.inl rfl⟩
 ·refine⟨some ⟨g,0,none⟩,cap,rfl,h2,(by intro e;cases e),by unfold maxLen at h3;omega,.inr ⟨g,0,rfl,hb,(Gs1.1 hc).1,λi hi=>⟨[.string xs[i]],⟨rfl,hs _ (List.getElem_mem hi)⟩,λj hj=>?_⟩⟩⟩;have hj0:j=0:=by simpa using hj
  subst hj0;have e:(cur.toList.take (xs.length*1))[i]?=some (.string xs[i]):=by rw[h5];simp[hi]
  rw[List.getElem?_take_of_lt Om,Array.getElem?_toList]at e;simp only[World.cell?,hc];show cur[0+i*Ty.str.sz+0]?=_;rw[show 0+i*Ty.str.sz+0=i by show 0+i*1+0=i;omega];exact e
theorem Yq{w:World}{O:Nat->Prop}{xs:List ByteArray}{v:Value}(h:strs.R w O xs [v]):∃ A c,v=.slice A xs.length c:=by
 obtain⟨A,c,e,_⟩:=h;cases e;exact⟨A,c,rfl⟩
theorem Tc{w:World}{O:Nat->Prop}{xs:List ByteArray}{v:Value}(h:strs.R w O xs [v]):∀ s∈xs,s.size<=9223372036854775807:=by
 intro s hs;obtain⟨A,c,_,_,_,hat⟩:=h;obtain⟨j,hj,rfl⟩:=List.getElem_of_mem hs;obtain⟨_,_,_,_,_,_,q⟩:=Vw hat j hj;exact q
theorem Mv{w:World}{O:Nat->Prop}{xs:List ByteArray}{c:Nat}(h:strs.R w O xs [.slice none xs.length c]):xs=[]:=by
 obtain⟨A,c',e,h1,h2,_⟩:=h;simp only[List.cons.injEq,Value.slice.injEq,and_true]at e;have:=h2 e.1.symm;exact List.eq_nil_of_length_eq_zero Om
theorem Mx{w:World}{O:Nat->Prop}{xs:List ByteArray}{c:Nat}(h:strs.R w O xs [.slice none xs.length c]):c=0:=by
 obtain⟨A,c',e,h1,h2,_⟩:=h;simp only[List.cons.injEq,Value.slice.injEq,and_true]at e;have:=h2 e.1.symm;omega
theorem Y9{w:World}{O:Nat->Prop}{xs:List ByteArray}{A:Option Addr}{c:Nat}(h:strs.R w O xs [.slice A xs.length c])(hne:xs≠[]):∃ b o,A=some ⟨b,o,none⟩/\b<w.heap.size/\∀ j u,(xs.map Value.string)[j]?=some u->w.cell? ((⟨b,o,none⟩:Addr).add j)=some u:=by
 obtain⟨A',c',e,_,_,hat⟩:=h;cases e;have h0:0<xs.length:=List.length_pos_iff.2 hne;obtain⟨b,o,e,_,hb,_,_⟩:=Vw hat 0 h0;refine⟨b,o,e,hb,λj u hu=>?_⟩;have hj:j<xs.length:=by simpa using (Gl.1 hu).1
 obtain⟨b',o',e',_,_,hc,_⟩:=Vw hat j hj;rw[e]at e';cases e';rw[List.getElem?_map,Ge hj]at hu;rw[Addr.add_lit,hc];exact hu
theorem Ub{w:World}{g:Nat}{xs:List ByteArray}{n:Nat}(h:w.heap[g]?=some (.cells (xs.map Value.string).toArray 9 (0,0)))(hn:n=xs.length)(hs:∀ s∈xs,s.size<=9223372036854775807)(hl:n<=2000000):strs.R w (λj=>g<=j) xs [.slice (some ⟨g,0,none⟩) n n]:=by
 subst hn;exact Wq (B:=g) ⟨by simp,.inr ⟨g,xs.length,_,rfl,Nl _,h,Nl _,by unfold maxLen;omega,by simp,by simp[List.take_of_length_le]⟩⟩ hs
end Go.Proofs.YtlfoalomaofejaaGreatDoor
