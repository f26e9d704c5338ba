/- laws.same, of texts. · Appendi -/
import Derived.Test.YtoliamijgmifkaaGreatDoorH39
set_option linter.all false
namespace Go.Proofs.YtoliamijgmifkaaGreatDoor
section
open Go.RowKit DT SS TR LT
def Zgq(xs ys:List ByteArray):Bool:=decide (xs=ys)
theorem Zgp{xs ys:List ByteArray}(h:xs≠ys):Zgq xs ys=false:=decide_eq_false h
theorem Zkh{w:World}{O O':Nat->Prop}{A B:Option Addr}{c k:Nat}{xs ys:List ByteArray}(h1:strs.R w O xs [.slice A xs.length c])(h2:strs.R w O' ys [.slice B ys.length k]) :
  Calls Tryz.prog 15 #[.slice A xs.length c,.slice B ys.length k] w λe w'=>e=.returned (.bool (Zgq xs ys))/\Zg w w':=by
 have hm:xs.length<=9223372036854775807:=by obtain⟨_,_,_,_,_,h,_⟩:=h1;exact h
 have H:=Hd (Ai1 h1 h2);by_cases hl:xs.length=ys.length
 ·rw[<- hl];have c1:xs≠[]->_:=λh=>Y5 h1 h
  have c2:ys≠[]->_:=λh=>Y5 h2 h
  have HC:=Hd (Ai1 c1 c2);clear h1 h2 c1 c2;have HL:=Hd hl;obtain⟨n,hn⟩:∃ n,n=xs.length:=⟨_,rfl⟩;rw[<- hn]at hm⊢;have HN:=Hd hn;clear hl hn;go_enter Tryz.func15,Tryz.ntmps15
  go_wp2_with fail
  go_loopg [13] n (λg1 v13 wr=>∃ i:Nat,v13=.int .i64 (i:Int)/\i<=n/\n<=i+g1/\Hid ((∀ j,j<i->xs[j]?=ys[j]?)/\Zg w wr))
  case atStart=>exact⟨0,rfl,Om,Om,λj hj=>absurd hj Om,Fl _⟩
  case round =>
   obtain⟨i,rfl,hi,hg,HR⟩:=hrel;by_cases hlt:i<n
   ·have hlz:(i:Int)<(n:Int):=Om;have hz0:(0:Int)<=(i:Int):=Om;have hx:i<xs.length:=by rw[<- HN.out];exact hlt
    have hy:i<ys.length:=by rw[<- HL.out];exact hx
    obtain⟨b,o,rfl,lb,cb⟩:=HC.out.1 (λe=>by rw[e]at hx;exact absurd hx (by simp));obtain⟨b',o',rfl,lb',cb'⟩:=HC.out.2 (λe=>by rw[e]at hy;exact absurd hy (by simp))
    have q1:wr.cell? ⟨b,o+i,none⟩=some (.string xs[i]):=by
     have:=cb i (.string xs[i]) (by rw[List.getElem?_map,Ge hx];rfl);rw[Addr.add_lit]at this;exact HR.out.2.cell this id
    have q2:wr.cell? ⟨b',o'+i,none⟩=some (.string ys[i]):=by
     have:=cb' i (.string ys[i]) (by rw[List.getElem?_map,Ge hy];rfl);rw[Addr.add_lit]at this;exact HR.out.2.cell this id
    have l1:b<wr.heap.size:=lt_of_cell q1;have l2:b'<wr.heap.size:=lt_of_cell q2;have HE:Hid ((xs[i]=ys[i]->xs[i]?=ys[i]?)/\(xs[i]≠ys[i]->xs≠ys)):=⟨λe=>by rw[Ge hx,Ge hy,e],λe h=>e (by simp only[h])⟩;clear cb cb' lb lb';generalize xs[i]=x at *;generalize ys[i]=y at *;clear hx hy
    cases hq:(x.toList==y.toList) with
    | true =>
     have hxy:x=y:=by
      have:=eq_of_beq hq;rw[ByteArray.toList_eq,ByteArray.toList_eq]at this;exact ByteArray.ext (Array.toList_inj.1 this)
     have HX:=Hd (HE.out.1 hxy);clear hxy;go_upto_region 6 with fail
     go_quiet (fail)
     go_wp2_with fail
     go_roundg (n-(i+1))
     case measure=>omega
     case rel=>exact⟨i+1,by go_num,Om,Om,λj hj=>by
      rcases Nat.lt_or_ge j i with q|q
      ·exact HR.out.1 j q
      ·obtain rfl:j=i:=Om
       exact HX.out,HR.out.2.drewN _⟩
    | false =>
     have HX:=Hd (HE.out.2 (λe=>by rw[e]at hq;simp at hq));go_upto_region 6 with fail
     go_quiet (fail)
     go_wp2_with fail
     go_ret;exact⟨by show Ending.returned (.bool false)=_;rw[Zgp HX.out],HR.out.2.drewN _⟩
   ·obtain rfl:i=n:=Om
    go_wp2_with fail
    go_ret
    have e:xs=ys:=by
     apply List.ext_getElem?;intro j;rcases Nat.lt_or_ge j i with q|q
     ·exact HR.out.1 j q
     ·rw[List.getElem?_eq_none (by rw[<- HN.out];exact q),List.getElem?_eq_none (by rw[<- HL.out,<- HN.out];exact q)]
    exact⟨by show Ending.returned (.bool true)=_;unfold Zgq;rw[decide_eq_true e],HR.out.2⟩
 ·have hne:xs≠ys:=λe=>hl (by rw[e])
  have hli:¬ (xs.length:Int)=(ys.length:Int):=Om
  have HX:=Hd hne;clear h1 h2 hne;generalize xs.length=n at *;generalize ys.length=m at *;go_enter Tryz.func15,Tryz.ntmps15
  go_wp2_with fail
  go_ret;exact⟨by show Ending.returned (.bool false)=_;rw[Zgp HX.out],Fl _⟩
end
section
open Go.RowKit DT SS TR LT
theorem V2{w:World}{O O':Nat->Prop}{A B:Option Addr}{c k n m:Nat}{xs:List ByteArray}(h1:strs.R w O xs [.slice A n c])(h2:strs.R w O' xs [.slice B m k]) :
  Calls Tryz.prog 15 #[.slice A n c,.slice B m k] w λe w'=>e=.returned (.bool true)/\Zg w w':=by
 obtain rfl:n=xs.length:=by obtain⟨_,_,e,_⟩:=h1;cases e;rfl
 obtain rfl:m=xs.length:=by obtain⟨_,_,e,_⟩:=h2;cases e;rfl
 exact (Zkh h1 h2).mono λe w' h=>⟨by rw[h.1];unfold Zgq;rw[decide_eq_true rfl],h.2⟩
theorem Ze0{w:World}{O:Nat->Prop}{xs:List ByteArray}{A:Option Addr}{c:Nat}(h:strs.R w O xs [.slice A xs.length c]){p e:Nat}(h1:p<=e)(h2:e<=xs.length):strs.R w O ((xs.take e).drop p) [.slice (A.map (λx=>x.add p)) (e-p) (c-p)]:=by
 have hl:((xs.take e).drop p).length=e-p:=by simp;omega
 obtain⟨A',c',e0,hle,hn,hb,hat⟩:=h;cases e0;refine⟨_,_,by rw[hl],by rw[hl];omega,λhA=>?_,by rw[hl];omega,?_⟩
 ·cases A with
  | none=>have:=hn rfl;omega
  | some a=>cases hA
 ·rcases hat with e|⟨b,o,rfl,hO,hlt,hc⟩
  ·left;rw[e];simp
  ·refine .inr ⟨b,o+p,by simp only[Option.map_some,Addr.add_lit],hO,hlt,λi hi=>?_⟩;rw[hl]at hi;obtain⟨cs,hr,hcs⟩:=hc (p+i) Om;refine⟨cs,?_,λj hj=>?_⟩
   ·rw[List.getElem_drop,List.getElem_take];exact hr
   ·have:=hcs j hj;rwa[show o+p+i*Ty.str.sz+j=o+(p+i)*Ty.str.sz+j by show o+p+i*1+j=o+(p+i)*1+j;omega]
theorem M2{ops:Array Oper}{o:Oper}{a:Act}{w:World}{K:Act->World->Prop}{Q:Exit->Act->World->Prop}{E:Prop}(hw:Region.wanted o (yielded ops a.tmps)=true)(s y:Operand)
  (hop:o.op=Op.call { callee:=Callee.builtin Builtin.append,args:=#[s,y],argTypes:=#[43,43] }) (B:Nat) (v:Value) (xs ys zs:List ByteArray) (hz:zs=xs++ys) (hs:a.eval s=v) (hown:w.ownsRow B 9 1 v xs.length (xs.map Value.string))
  (A:Option Addr) (c:Nat) (hy:a.eval y=.slice A ys.length c) {O:Nat->Prop} (hr:strs.R w O ys [.slice A ys.length c]) (b1:xs.length<=1000000) (b2:ys.length<=1000000) (hB:B<=w.heap.size)
  (hK:∀ A' c' w',w'.ownsRow B 9 1 (.slice A' zs.length c') zs.length (zs.map Value.string)->Fr (λj=>B<=j) w w'->K (a.put o.dst (.slice A' zs.length c')) w') :
  if Region.wanted o (yielded ops a.tmps)=true then Oper.wp Tryz.prog o a w K Q else E:=by
 rw[if_pos hw];obtain⟨i,hi,i0,i1,i2⟩:=info_parts Ux;have hlen:zs.length=xs.length+ys.length:=by rw[hz,List.length_append]
 cases A with
 | none =>
  have e:=Mj hr;have ec:=Mk hr;subst e ec;have hr2:=run_append_owned_none (P:=Tryz.prog) (w:=w) B 43 o.type 9 i 1 Tryz.underlying43 hi v xs.length _ hown;unfold Oper.wp;simp only[execOp,hop,resolve,invoke,builtin,Sem.run_bind,Sem.run_pure,Result.andThen_ok,List.map_toArray,List.map_cons,List.map_nil,hs,hy,List.length_nil,hr2];rw[List.append_nil]at hz;subst hz;obtain⟨A',c',rfl⟩:=Zn hown;exact hK A' c' w hown (Fl _)
 | some ad =>
  have hc:∀ j u,(ys.map Value.string)[j]?=some u->w.cell? (ad.add j)=some u:=λj u hu=>by
   obtain⟨b,o',e,_,h⟩:=Y5 hr (λe=>by rw[e]at hu;simp at hu);simp only[Option.some.injEq]at e;rw[e];exact h j u hu
  obtain⟨v',w',hr2,k2,k3,k4,k5⟩:=run_append_own_at (P:=Tryz.prog) w B 43 o.type 9 i _ 1 16 Tryz.underlying43 hi i0 i1 i2 rfl (by decide) v xs.length _ hown ad ys.length c (ys.map Value.string) (by simp) hc (λu hu=>by obtain⟨x,_,rfl⟩:=List.mem_map.1 hu;rfl) (by unfold maxLen;omega) Om hB;unfold Oper.wp;simp only[execOp,hop,resolve,invoke,builtin,Sem.run_bind,Sem.run_pure,Result.andThen_ok,List.map_toArray,List.map_cons,List.map_nil,hs,hy,hr2];rw[<- hlen,<- List.map_append,<- hz]at k2;obtain⟨A',c',rfl⟩:=Zn k2;exact hK A' c' w' k2 ((Fl w).grown k3 (λk hk _=>Yy (g:=k) hown hk))
end
end Go.Proofs.YtoliamijgmifkaaGreatDoor
