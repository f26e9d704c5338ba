/- laws.same, of texts. · laws.sa -/
import Derived.Test.YtlfoalomaofejaaGreatDoorM1
import Derived.Deep.CutRange
set_option linter.all false
namespace Go.Proofs.YtlfoalomaofejaaGreatDoor
section
open Go.RowKit DT
def Zen(xs h:List ByteArray):Bool:=decide (xs=h)
theorem Zem{xs q:List ByteArray}(h:xs≠q):Zen xs q=false:=decide_eq_false h
theorem Zik{w:World}{O O':Nat->Prop}{A B:Option Addr}{c k:Nat}{xs z:List ByteArray}(h1:strs.R w O xs [.slice A xs.length c])(h2:strs.R w O' z [.slice B z.length k]) :
  Calls Tryz.prog 20 #[.slice A xs.length c,.slice B z.length k] w λe w'=>e=.returned (.bool (Zen xs z))/\Zf w w':=by
 have hm:xs.length<=9223372036854775807:=by obtain⟨_,_,_,_,_,h,_⟩:=h1;exact h
 have H:=Hd (Ai1 h1 h2);by_cases hl:xs.length=z.length
 ·rw[<- hl];have c1:xs≠[]->_:=λh=>Xh h1 h
  have c2:z≠[]->_:=λh=>Xh h2 h
  have HC:=Hd (Ai1 c1 c2);clear h1 h2 c1 c2;have HL:=Hd hl;obtain⟨n,Y⟩:∃ n,n=xs.length:=⟨_,rfl⟩;rw[<- Y]at hm⊢;have HN:=Hd Y;clear hl Y;go_enter Tryz.func20,Tryz.ntmps20
  go_wp2_with fail
  go_loopg [13] n (λg1 V wr=>∃ i:Nat,V=.int .i64 (i:Int)/\i<=n/\n<=i+g1/\Hid ((∀ j,j<i->xs[j]?=z[j]?)/\Zf w wr))
  case atStart=>exact⟨0,rfl,Om,Om,λj hj=>absurd hj Om,Fl _⟩
  case round =>
   obtain⟨i,rfl,hi,hg,G⟩:=hrel;by_cases Z:i<n
   ·have ab:(i:Int)<(n:Int):=Om;have aa:(0:Int)<=(i:Int):=Om;have I:i<xs.length:=by rw[<- HN.out];exact Z
    have J:i<z.length:=by rw[<- HL.out];exact I
    obtain⟨b,o,rfl,lb,cb⟩:=HC.out.1 (λe=>by rw[e]at I;exact absurd I (by simp));obtain⟨b',o',rfl,W,M⟩:=HC.out.2 (λe=>by rw[e]at J;exact absurd J (by simp))
    have q1:wr.cell? ⟨b,o+i,none⟩=some (.string xs[i]):=by
     have:=cb i (.string xs[i]) (by rw[List.getElem?_map,Ge I];rfl);rw[Addr.add_lit]at this;exact G.out.2.cell this id
    have q2:wr.cell? ⟨b',o'+i,none⟩=some (.string z[i]):=by
     have:=M i (.string z[i]) (by rw[List.getElem?_map,Ge J];rfl);rw[Addr.add_lit]at this;exact G.out.2.cell this id
    have l1:b<wr.heap.size:=lt_of_cell q1;have l2:b'<wr.heap.size:=lt_of_cell q2;have HE:Hid ((xs[i]=z[i]->xs[i]?=z[i]?)/\(xs[i]≠z[i]->xs≠z)):=⟨λe=>by rw[Ge I,Ge J,e],λe h=>e (by simp only[h])⟩;clear cb M lb W;generalize xs[i]=x at *;generalize z[i]=y at *;clear I J
    cases X:(x.toList==y.toList) with
    | true =>
     have K:x=y:=by
      have:=eq_of_beq X;rw[ByteArray.toList_eq,ByteArray.toList_eq]at this;exact ByteArray.ext (Array.toList_inj.1 this)
     have U:=Hd (HE.out.1 K);clear K;go_upto_region 6 with fail
     go_quiet (fail)
     go_wp2_with fail
     go_roundg (n-(i+1))
     case measure=>omega
     case rel=>exact⟨i+1,by go_num,Om,Om,λj hj=>by
      rcases Nat.lt_or_ge j i with q|q
      ·exact G.out.1 j q
      ·obtain rfl:j=i:=Om
       exact U.out,G.out.2.drewN _⟩
    | false =>
     have U:=Hd (HE.out.2 (λe=>by rw[e]at X;simp at X));go_upto_region 6 with fail
     go_quiet (fail)
     go_wp2_with fail
     go_ret;exact⟨by show Ending.returned (.bool false)=_;rw[Zem U.out],G.out.2.drewN _⟩
   ·obtain rfl:i=n:=Om
    go_wp2_with fail
    go_ret
    have e:xs=z:=by
     apply List.ext_getElem?;intro j;rcases Nat.lt_or_ge j i with q|q
     ·exact G.out.1 j q
     ·rw[List.getElem?_eq_none (by rw[<- HN.out];exact q),List.getElem?_eq_none (by rw[<- HL.out,<- HN.out];exact q)]
    exact⟨by show Ending.returned (.bool true)=_;unfold Zen;rw[decide_eq_true e],G.out.2⟩
 ·have L:xs≠z:=λe=>hl (by rw[e])
  have ac:¬ (xs.length:Int)=(z.length:Int):=Om
  have U:=Hd L;clear h1 h2 L;generalize xs.length=n at *;generalize z.length=m at *;go_enter Tryz.func20,Tryz.ntmps20
  go_wp2_with fail
  go_ret;exact⟨by show Ending.returned (.bool false)=_;rw[Zem U.out],Fl _⟩
theorem P6{w:World}{O O':Nat->Prop}{A B:Option Addr}{c k n m:Nat}{xs:List ByteArray}(h1:strs.R w O xs [.slice A n c])(h2:strs.R w O' xs [.slice B m k]) :
  Calls Tryz.prog 20 #[.slice A n c,.slice B m k] w λe w'=>e=.returned (.bool true)/\Zf w w':=by
 obtain rfl:n=xs.length:=by obtain⟨_,_,e,_⟩:=h1;cases e;rfl
 obtain rfl:m=xs.length:=by obtain⟨_,_,e,_⟩:=h2;cases e;rfl
 exact (Zik h1 h2).mono λe w' h=>⟨by rw[h.1];unfold Zen;rw[decide_eq_true rfl],h.2⟩
end
section
open Go.RowKit
theorem Vh(a:Option ByteArray)(w:World):Calls Tryz.prog 82 #[.agg #[.string (a.getD ⟨#[]⟩),.bool a.isSome],.agg #[.string (a.getD ⟨#[]⟩),.bool a.isSome]] w λe w'=>e=.returned (.bool true)/\Zf w w':=by
 have X:Zf w ((w.alloc (.cells #[.string (a.getD ⟨#[]⟩),.bool a.isSome] 64)).alloc (.cells #[.string (a.getD ⟨#[]⟩),.bool a.isSome] 64)):=((Fl w).alloc _).alloc _;rcases a with _|x
 ·go_enter Tryz.func82,Tryz.ntmps82
  go_wp2_with fail
  go_ret;exact⟨rfl,X⟩
 ·go_enter Tryz.func82,Tryz.ntmps82
  go_wp2_with fail
  go_ret;exact⟨rfl,X⟩
end
end Go.Proofs.YtlfoalomaofejaaGreatDoor
