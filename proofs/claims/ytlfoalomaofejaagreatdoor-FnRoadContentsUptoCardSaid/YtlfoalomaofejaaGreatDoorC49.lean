/- laws.same, of texts. · laws.sa -/
import Derived.Test.YtlfoalomaofejaaGreatDoorC5
import Derived.Deep.CutRange
set_option linter.all false
namespace Go.Proofs.YtlfoalomaofejaaGreatDoor
section
open Go.RowKit DT
def Bu(xs ys:List ByteArray):Bool:=decide (xs=ys)
theorem Zdq{xs ys:List ByteArray}(h:xs≠ys):Bu xs ys=false:=decide_eq_false h
theorem Bt{w:World}{O O':Nat->Prop}{A B:Option Addr}{c k:Nat}{xs ys:List ByteArray}(h1:strs.R w O xs [.slice A xs.length c])(h2:strs.R w O' ys [.slice B ys.length k]) :
  Calls Tryz.prog 20 #[.slice A xs.length c,.slice B ys.length k] w λe w'=>e=.returned (.bool (Bu xs ys))/\Zf w w':=by
 have hm:xs.length<=9223372036854775807:=by obtain⟨_,_,_,_,_,h,_⟩:=h1;exact h
 have H:=Hd (Ai1 h1 h2);by_cases hl:xs.length=ys.length
 ·rw[<- hl];have c1:xs≠[]->_:=λh=>Y9 h1 h
  have c2:ys≠[]->_:=λh=>Y9 h2 h
  have HC:=Hd (Ai1 c1 c2);clear h1 h2 c1 c2;have HL:=Hd hl;obtain⟨n,hn⟩:∃ n,n=xs.length:=⟨_,rfl⟩;rw[<- hn]at hm⊢;have HN:=Hd hn;clear hl hn;go_enter Tryz.func20,Tryz.ntmps20
  go_wp2_with fail
  go_loopg [13] n (λg1 v13 wr=>∃ i:Nat,v13=.int .i64 (i:Int)/\i<=n/\n<=i+g1/\Hid ((∀ j,j<i->xs[j]?=ys[j]?)/\Zf w wr))
  case atStart=>exact⟨0,rfl,Om,Om,λj hj=>absurd hj Om,Fl _⟩
  case round =>
   obtain⟨i,rfl,hi,hg,HR⟩:=hrel;by_cases hlt:i<n
   ·have hlz:(i:Int)<(n:Int):=Om;have hz0:(0:Int)<=(i:Int):=Om;have hx:i<xs.length:=by rw[<- HN.out];exact hlt
    have hy:i<ys.length:=by rw[<- HL.out];exact hx
    obtain⟨b,o,rfl,lb,cb⟩:=HC.out.1 (λe=>by rw[e]at hx;exact absurd hx (by simp));obtain⟨b',o',rfl,lb',cb'⟩:=HC.out.2 (λe=>by rw[e]at hy;exact absurd hy (by simp))
    have q1:wr.cell? ⟨b,o+i,none⟩=some (.string xs[i]):=by
     have:=cb i (.string xs[i]) (by rw[List.getElem?_map,Ge hx];rfl);rw[Addr.add_lit]at this;exact HR.out.2.cell this id
    have q2:wr.cell? ⟨b',o'+i,none⟩=some (.string ys[i]):=by
     have:=cb' i (.string ys[i]) (by rw[List.getElem?_map,Ge hy];rfl);rw[Addr.add_lit]at this;exact HR.out.2.cell this id
    have l1:b<wr.heap.size:=lt_of_cell q1;have l2:b'<wr.heap.size:=lt_of_cell q2;have HE:Hid ((xs[i]=ys[i]->xs[i]?=ys[i]?)/\(xs[i]≠ys[i]->xs≠ys)):=⟨λe=>by rw[Ge hx,Ge hy,e],λe h=>e (by simp only[h])⟩;clear cb cb' lb lb';generalize xs[i]=x at *;generalize ys[i]=y at *;clear hx hy
    cases hq:(x.toList==y.toList) with
    | true =>
     have hxy:x=y:=by
      have:=eq_of_beq hq;rw[ByteArray.toList_eq,ByteArray.toList_eq]at this;exact ByteArray.ext (Array.toList_inj.1 this)
     have HX:=Hd (HE.out.1 hxy);clear hxy;go_upto_region 6 with fail
     go_quiet (fail)
     go_wp2_with fail
     go_roundg (n-(i+1))
     case measure=>omega
     case rel=>exact⟨i+1,by go_num,Om,Om,λj hj=>by
      rcases Nat.lt_or_ge j i with q|q
      ·exact HR.out.1 j q
      ·obtain rfl:j=i:=Om
       exact HX.out,HR.out.2.drewN _⟩
    | false =>
     have HX:=Hd (HE.out.2 (λe=>by rw[e]at hq;simp at hq));go_upto_region 6 with fail
     go_quiet (fail)
     go_wp2_with fail
     go_ret;exact⟨by show Ending.returned (.bool false)=_;rw[Zdq HX.out],HR.out.2.drewN _⟩
   ·obtain rfl:i=n:=Om
    go_wp2_with fail
    go_ret
    have e:xs=ys:=by
     apply List.ext_getElem?;intro j;rcases Nat.lt_or_ge j i with q|q
     ·exact HR.out.1 j q
     ·rw[List.getElem?_eq_none (by rw[<- HN.out];exact q),List.getElem?_eq_none (by rw[<- HL.out,<- HN.out];exact q)]
    exact⟨by show Ending.returned (.bool true)=_;unfold Bu;rw[decide_eq_true e],HR.out.2⟩
 ·have hne:xs≠ys:=λe=>hl (by rw[e])
  have hli:¬ (xs.length:Int)=(ys.length:Int):=Om
  have HX:=Hd hne;clear h1 h2 hne;generalize xs.length=n at *;generalize ys.length=m at *;go_enter Tryz.func20,Tryz.ntmps20
  go_wp2_with fail
  go_ret;exact⟨by show Ending.returned (.bool false)=_;rw[Zdq HX.out],Fl _⟩
theorem Rr{w:World}{O O':Nat->Prop}{A B:Option Addr}{c k n m:Nat}{xs:List ByteArray}(h1:strs.R w O xs [.slice A n c])(h2:strs.R w O' xs [.slice B m k]) :
  Calls Tryz.prog 20 #[.slice A n c,.slice B m k] w λe w'=>e=.returned (.bool true)/\Zf w w':=by
 obtain rfl:n=xs.length:=by obtain⟨_,_,e,_⟩:=h1;cases e;rfl
 obtain rfl:m=xs.length:=by obtain⟨_,_,e,_⟩:=h2;cases e;rfl
 exact (Bt h1 h2).mono λe w' h=>⟨by rw[h.1];unfold Bu;rw[decide_eq_true rfl],h.2⟩
end
section
open Go.RowKit
theorem Va(a:Option ByteArray)(w:World):Calls Tryz.prog 82 #[.agg #[.string (a.getD ⟨#[]⟩),.bool a.isSome],.agg #[.string (a.getD ⟨#[]⟩),.bool a.isSome]] w λe w'=>e=.returned (.bool true)/\Zf w w':=by
 have X:Zf w ((w.alloc (.cells #[.string (a.getD ⟨#[]⟩),.bool a.isSome] 64)).alloc (.cells #[.string (a.getD ⟨#[]⟩),.bool a.isSome] 64)):=((Fl w).alloc _).alloc _;rcases a with _|x
 ·go_enter Tryz.func82,Tryz.ntmps82
  go_wp2_with fail
  go_ret;exact⟨rfl,X⟩
 ·go_enter Tryz.func82,Tryz.ntmps82
  go_wp2_with fail
  go_ret;exact⟨rfl,X⟩
end
end Go.Proofs.YtlfoalomaofejaaGreatDoor
