/- laws.joined, with '/' between. -/
import Derived.Test.YtoliamijgmifkaaGreatDoorH39
set_option linter.all false
namespace Go.Proofs.YtoliamijgmifkaaGreatDoor
open Go.RowKit DT SS TR LT
theorem Zi1:We []=⟨#[]⟩:=rfl
theorem Zfp(l:List ByteArray)(x:ByteArray):We (l++[x])=if l=[] then x else (We l++⟨#[47]⟩)++x:=by
 cases l with
 | nil =>
  rw[if_pos rfl];unfold We;simp only[List.nil_append,List.map_cons,List.map_nil,Lib.join_one]
 | cons y r =>
  rw[if_neg (by simp)];unfold We;apply ByteArray.ext;simp only[List.cons_append,List.map_cons,List.map_append,List.map_nil,Lib.join_cons,Lib.joinTail,List.flatten_append,List.flatten_cons,List.flatten_nil,List.append_nil,ByteArray.data_append];apply Array.toList_inj.1;simp
theorem Ff(xs:List ByteArray)(i:Nat):total (xs.take i)<=total xs:=by
 have e:total xs=total (xs.take i)+total (xs.drop i):=by
  conv=>lhs;rw[<- List.take_append_drop i xs]
  unfold total;rw[List.map_append,List.sum_append]
 omega
theorem Es{w:World}{O:Nat->Prop}{A:Option Addr}{c:Nat}{xs:List ByteArray}(h:strs.R w O xs [.slice A xs.length c])(ht:total xs<=1048576) :
  Calls Tryz.prog 16 #[.slice A xs.length c,.string ⟨#[47]⟩] w λe w'=>e=.returned (.string (We xs))/\Zg w w':=by
 have hm:xs.length<=9223372036854775807:=by obtain⟨_,_,_,_,_,h,_⟩:=h;exact h
 have c1:xs≠[]->_:=λhne=>Y5 h hne
 have HC:=Hd c1;clear h c1;have HT:=Hd ht;clear ht;obtain⟨n,hn⟩:∃ n,n=xs.length:=⟨_,rfl⟩;rw[<- hn]at hm⊢;have HN:=Hd hn;clear hn;go_enter Tryz.func16,Tryz.ntmps16
 go_wp2_with fail
 go_loopg [5,9] n (λg1 v5 v9 wr=>∃ (i:Nat) (s:ByteArray),v5=.string s/\v9=.int .i64 (i:Int)/\i<=n/\n<=i+g1/\Hid (s=We (xs.take i)/\Zg w wr))
 case atStart=>exact⟨0,_,rfl,rfl,Om,Om,rfl,Fl _⟩
 case round =>
  obtain⟨i,s,rfl,rfl,hi,hg,HR⟩:=hrel;by_cases hlt:i<n
  ·have hlz:(i:Int)<(n:Int):=Om;have hz0:(0:Int)<=(i:Int):=Om;have hx:i<xs.length:=by rw[<- HN.out];exact hlt
   obtain⟨b,o,rfl,lb,cb⟩:=HC.out (λe=>by rw[e]at hx;exact absurd hx (by simp))
   have q1:wr.cell? ⟨b,o+i,none⟩=some (.string xs[i]):=by
    have:=cb i (.string xs[i]) (by rw[List.getElem?_map,Ge hx];rfl);rw[Addr.add_lit]at this;exact HR.out.2.cell this id
   have l1:b<wr.heap.size:=lt_of_cell q1;have HT2:Hid (xs.take (i+1)=xs.take i++[xs[i]]):=List.take_succ_eq_append_getElem hx
   have HS:Hid (We (xs.take (i+1))=if i=0 then xs[i] else (s++⟨#[47]⟩)++xs[i]):=by
    show _=_;rw[HT2.out,Zfp,<- HR.out.1];by_cases h0:i=0
    ·subst h0;rfl
    ·rw[if_neg h0,if_neg (λe=>by
      rcases List.take_eq_nil_iff.1 e with e|e
      ·exact h0 e
      ·rw[e]at hx;simp at hx)]
   have hsz:(We (xs.take (i+1))).size<=1048576:=Nt (Ou _) (Nt (Ff xs _) HT.out);have hsz2:s.size<=1048576:=by rw[HR.out.1];exact Nt (Ou _) (Nt (Ff xs _) HT.out)
   have hsx:xs[i].size<=1048576:=by
    have:=HS.out;have h3:=hsz;rw[this]at h3
    split at h3
    ·exact h3
    ·rw[ByteArray.size_append]at h3;omega
   clear HT2 lb cb;generalize xs[i]=x at *;clear hx hsz;have hcat:∀ a b:ByteArray,a.size<=3000000->b.size<=3000000->(a++b).size<=9223372036854775807:=λa b h1 h2=>by rw[ByteArray.size_append];omega
   by_cases h0:i=0
   ·have hi0:¬ (0:Int)<(i:Int):=Om
    have HZ:Hid (s++x=We (xs.take (i+1))):=by
     show _=_;rw[HS.out,if_pos h0,HR.out.1,h0];exact ByteArray.ext (Array.toList_inj.1 (by simp[Zi1]))
    have hq:=hcat s x Om Om;clear h0 hcat;go_wp2_with fail
    go_roundg (n-(i+1))
    case measure=>omega
    case rel=>exact⟨i+1,_,rfl,by go_num,Om,Om,HZ.out,HR.out.2⟩
   ·have hi1:(0:Int)<(i:Int):=Om
    have HZ:Hid ((s++⟨#[47]⟩)++x=We (xs.take (i+1))):=by
     show _=_;rw[HS.out,if_neg h0]
    have hq:=hcat s ⟨#[47]⟩ Om (by show 1<=3000000;omega);have hq2:=hcat (s++⟨#[47]⟩) x (by rw[ByteArray.size_append];show s.size+1<=3000000;omega) Om;clear h0 hcat;go_wp2_with fail
    go_roundg (n-(i+1))
    case measure=>omega
    case rel=>exact⟨i+1,_,rfl,by go_num,Om,Om,HZ.out,HR.out.2⟩
  ·obtain rfl:i=n:=Om
   have HE:Hid (s=We xs):=by show _=_;rw[HR.out.1,HN.out,List.take_length]
   go_wp2_with fail
   go_ret;exact⟨by show Ending.returned (.string s)=_;rw[HE.out],HR.out.2⟩
end Go.Proofs.YtoliamijgmifkaaGreatDoor
