/- impl.ContentsBytes. · laws.col -/
import Derived.Test.YtlfoalomaofejaaGreatDoorC47
set_option linter.all false
set_option maxRecDepth 100000
set_option maxHeartbeats 1000000
namespace Go.Proofs.YtlfoalomaofejaaGreatDoor
section
open Go.RowKit DT SP
def Td(ls:List (List ByteArray)):List UInt8:=Vr (ls.take (ls.length-1))++Ug (ls.getD (ls.length-1) [])
theorem Zmv{B b:Nat}{l:List UInt8}{w:World}(h:Pp B b l w):Calls Tryz.prog 49 #[.pointer (some ⟨b,0,none⟩)] w λe w'=>e=.returned (.int .i64 (l.length:Int))/\∃ n,w'=w.drewN n:=by
 have:=Any.Buffer_Len laysBLen B b (Yv l) w h;rwa[show (Yv l).length=l.length from List.length_map ..]at this
theorem Zjh{B b:Nat}{l:List UInt8}{w:World}(h:Pp B b l w):Calls Tryz.prog 52 #[.pointer (some ⟨b,0,none⟩)] w λe w'=>∃ v,e=.returned v/\w'.ownsRow B 5 1 v l.length (Yv l)/\∃ n,w'=w.drewN n:=by
 have:=Any.Buffer_Bytes laysBBytes B b (Yv l) w h;rwa[show (Yv l).length=l.length from List.length_map ..]at this
theorem Mb(ls:List (List ByteArray))(hf:RowsFit ls)(A:Option Addr)(c:Nat)(w:World)(O:Nat->Prop)(h:strs.At w O A ls) :
  Calls Tryz.prog 22 #[.slice A ls.length c] w λe w'=>∃ v,e=.returned (.tuple #[v,.int .i64 0])/\w'.ownsRow w.heap.size 5 1 v (Td ls).length (Yv (Td ls))/\Zf w w':=by
 have X1:Zf w (w.alloc (.cells #[.slice none 0 0,.int .i64 0,.int .i8 0] Zl2)):=(Fl w).alloc _;have hB:=Lib.fresh_isBuffer Zl2 5 w;have HW:=Hd (Cq ls hf A c w.heap.size w.heap.size _ (λj=>j<w.heap.size) (Z3 (Ku (λk hk _=>hk) h) X1) (λ_ e=>e) hB (by have:=X1.size;omega));have HX:=Hd X1;have hl:=hf.two;clear X1 hB h hf;generalize hT:Td ls=m;have HT:=Hd hT;clear hT;go_enter Tryz.func22,Tryz.ntmps22
 go_wp2_with (first
  | (go_at_call 65;refine HW.out.mono ?_;rintro e w2 ⟨m',hm',rfl,h1,h2⟩;obtain rfl:m'=m:=hm'.trans HT.out;have H2:=Hd (Ai1 h1 h2);clear h1 h2 hm')
  | (go_at_call 49;refine (Zmv H2.out.1).mono ?_;rintro e w3 ⟨rfl,k,rfl⟩)
  | (go_at_call 52;refine (Zjh (Lib.IsBuffer.drewN H2.out.1 _)).mono ?_;rintro e w3 ⟨v,rfl,ho,k,rfl⟩;have HO:=Hd ho;clear ho)
  | fail)
 go_ret2
 exact⟨v,rfl,HO.out,(((HX.out.mono (λ_ _ h=>h.elim)).then H2.out.2).drewN _).mono (λj hj e=>absurd hj Om)⟩
end
section
open Go.RowKit DT SP
def okS(s:ByteArray):Bool:=!inB s 10 && !inB s 7
def okR(xs:List ByteArray):Bool:=xs.all okS&&decide (xs.length≠0)
def Io(ls:List (List ByteArray)):Bool:=ls.all okR&&(decide (2<=ls.length)&&(decide (ls.length<=40)&&Sh ls))
theorem Fd{α:Type}{p:α->Bool}{l:List α}(i:Nat)(h:i<l.length)(hp:p l[i]=false):l.all p=false:=by
 rw[List.all_eq_false];exact⟨l[i],List.getElem_mem h,by rw[hp];decide⟩
theorem Zbj{α:Type}{p:α->Bool}{l:List α}(h:∀ j (hj:j<l.length),p l[j]=true):l.all p=true:=by
 rw[List.all_eq_true];intro x hx;obtain⟨j,hj,rfl⟩:=List.getElem_of_mem hx;exact h j hj
theorem Zba{w:World}{O:Nat->Prop}{A:Option Addr}{c:Nat}{ls:List (List ByteArray)}(h:strs.At w O A ls)(hz:(ls.map total).sum<=4611686018427387904) :
  Calls Tryz.prog 11 #[.slice A ls.length c] w λe w'=>e=.returned (.bool (Io ls))/\Zf w w':=by
 have hm:=h.1;have HA:=Hd h
 have CF:Hid (∀ W,Zf w W->Calls Tryz.prog 45 #[.slice A ls.length c] W λe w'=>e=.returned (.bool (Sh ls))/\W=w'):=λW f=>Dm W O A c ls hm hz (λk hk=>by
  obtain⟨b,o,A',c',rfl,hl,hr,hc⟩:=Q6 (Z3 HA.out f) k hk;obtain⟨A2,c2,e,_,_,hat⟩:=hr;cases e
  exact⟨b,o,A',c',rfl,hl,hc,hat⟩)
 obtain⟨n,hn⟩:∃ n,n=ls.length:=⟨_,rfl⟩;rw[<- hn]at CF hm⊢;have HN:=Hd hn;clear h hz hn;obtain⟨R,hR⟩:∃ R,R=Io ls:=⟨_,rfl⟩;rw[<- hR];have HR0:=Hd hR;clear hR;go_enter Tryz.func11,Tryz.ntmps11
 go_wp2_with fail
 go_loopg [8] n (λg1 v8 wr=>∃ i:Nat,v8=.int .i64 (i:Int)/\i<=n/\n<=i+g1/\Hid ((∀ j (hj:j<ls.length),j<i->okR ls[j]=true)/\Zf w wr))
 case atStart=>exact⟨0,rfl,Om,Om,λj _ h=>absurd h Om,Fl _⟩
 case round =>
  obtain⟨i,rfl,hi,hg,HR⟩:=hrel;by_cases hlt:i<n
  ·have hlz:(i:Int)<(n:Int):=Om;have hz0:(0:Int)<=(i:Int):=Om;have hil:i<ls.length:=by rw[<- HN.out];exact hlt
   have HBAD:Hid (okR ls[i]=false->R=false):=λhp=>by rw[HR0.out];unfold Io;rw[Fd i hil hp];rfl
   have HOK:Hid (okR ls[i]=true->∀ j (hj:j<ls.length),j<i+1->okR ls[j]=true):=λhp j hj h=>by
    rcases Nat.lt_or_ge j i with q|q
    ·exact HR.out.1 j hj q
    ·obtain rfl:j=i:=Om
     exact hp
   obtain⟨gb,go,Ax,cx,rfl,lg,hr,q1⟩:=Q6 (Z3 HA.out HR.out.2) i hil;generalize ls[i]=xs at *;obtain⟨m,hm2⟩:∃ m,m=xs.length:=⟨_,rfl⟩;have HAX:Hid (Ty.str.At wr O Ax xs):=by obtain⟨_,_,e,_,_,hat⟩:=hr;cases e;exact hat
   rw[<- hm2]at q1;have hmx:=HAX.out.1;rw[<- hm2]at hmx;have HM:=Hd hm2;clear hm2 hr;go_wp2_with fail
   go_loopg [16] m (λg2 v16 wq=>∃ k:Nat,v16=.int .i64 (k:Int)/\k<=m/\m<=k+g2/\wr=wq/\Hid (∀ j (hj:j<xs.length),j<k->okS xs[j]=true))
   case atStart=>exact⟨0,rfl,Om,Om,rfl,λj _ h=>absurd h Om⟩
   case round =>
    obtain⟨k,rfl,hk,hg2,rfl,HK⟩:=hrel;by_cases hkl:k<m
    ·have hkz:(k:Int)<(m:Int):=Om;have hk0:(0:Int)<=(k:Int):=Om;have hkx:k<xs.length:=by rw[<- HM.out];exact hkl
     obtain⟨xb,xo,rfl,_,lx,q2,hsz⟩:=Vw HAX.out k hkx;have HB2:Hid (okS xs[k]=false->R=false):=λhp=>HBAD.out (by unfold okR;rw[Fd k hkx hp];rfl)
     have HK2:Hid (okS xs[k]=true->∀ j (hj:j<xs.length),j<k+1->okS xs[j]=true):=λhp j hj h=>by
      rcases Nat.lt_or_ge j k with q|q
      ·exact HK.out j hj q
      ·obtain rfl:j=k:=Om
       exact hp
     generalize xs[k]=s at *;have C1:=Hd (Oj s 10 wr hsz);have C2:=Hd (Oj s 7 wr hsz);clear hkx
     cases h10:inB s 10 with
     | true =>
      have HE:=Hd (HB2.out (by unfold okS;rw[h10];rfl));rw[h10]at C1;clear h10
      go_wp2_with (first
       | (go_at_call 44;refine C1.out.mono ?_;clear C1;rintro e w2 ⟨rfl,rfl⟩)
       | fail)
      go_ret;exact⟨by show Ending.returned (.bool false)=_;rw[HE.out],HR.out.2⟩
     | false =>
      rw[h10]at C1
      cases h7:inB s 7 with
      | true =>
       have HE:=Hd (HB2.out (by unfold okS;rw[h7];simp));rw[h7]at C2;clear h10 h7
       go_wp2_with (first
        | (go_at_call 44;refine C1.out.mono ?_;clear C1;rintro e w2 ⟨rfl,rfl⟩)
        | (go_at_call 44;refine C2.out.mono ?_;clear C2;rintro e w2 ⟨rfl,rfl⟩)
        | fail)
       go_ret;exact⟨by show Ending.returned (.bool false)=_;rw[HE.out],HR.out.2⟩
      | false =>
       have HE:=Hd (HK2.out (by unfold okS;rw[h10,h7];rfl));rw[h7]at C2;clear h10 h7
       go_wp2_with (first
        | (go_at_call 44;refine C1.out.mono ?_;clear C1;rintro e w2 ⟨rfl,rfl⟩)
        | (go_at_call 44;refine C2.out.mono ?_;clear C2;rintro e w2 ⟨rfl,rfl⟩)
        | fail)
       go_roundg (m-(k+1))
       case measure=>omega
       case rel=>exact⟨k+1,by go_num,Om,Om,rfl,HE.out⟩
    ·obtain rfl:k=m:=Om
     have hall:xs.all okS=true:=Zbj (λj hj=>HK.out j hj (by rw[HM.out];exact hj));rcases Nat.eq_zero_or_pos k with h0|h0
     ·have HE:=Hd (HBAD.out (by unfold okR;rw[<- HM.out,h0];simp));clear hall;subst h0;go_wp2_with fail
      go_ret;exact⟨by show Ending.returned (.bool false)=_;rw[HE.out],HR.out.2⟩
     ·have HE:=Hd (HOK.out (by unfold okR;rw[hall,<- HM.out,decide_eq_true Om];rfl));have hk0:((k:Int)==0)=false:=beq_eq_false_iff_ne.2 Om;clear hall;go_wp2_with fail
      go_roundg (n-(i+1))
      case measure=>omega
      case rel=>exact⟨i+1,by go_num,Om,Om,HE.out,HR.out.2⟩
  ·obtain rfl:i=n:=Om
   have hall:ls.all okR=true:=Zbj (λj hj=>HR.out.1 j hj (by rw[HN.out];exact hj));have HRF:Hid (R=(decide (2<=i)&&(decide (i<=40)&&Sh ls))):=by show _=_;rw[HR0.out,HN.out];unfold Io;rw[hall];rfl
   have CFF:=Hd (CF.out wr HR.out.2);clear hall;generalize Sh ls=fb at *;by_cases h2:2<=i
   ·have y2:(2:Int)<=(i:Int):=Om;by_cases h4:i<=40
    ·have y4:(i:Int)<=40:=Om;have HE:Hid (R=fb):=by show _=_;rw[HRF.out,decide_eq_true h2,decide_eq_true h4];rfl
     clear h2 h4
     go_wp2_with (first
      | (go_at_call 45;refine CFF.out.mono ?_;rintro e w2 ⟨rfl,rfl⟩)
      | fail)
     all_goals go_ret
     all_goals exact⟨by show Ending.returned (.bool fb)=_;rw[HE.out],HR.out.2⟩
    ·have y4:¬ (i:Int)<=40:=Om;have HE:Hid (R=false):=by show _=_;rw[HRF.out,decide_eq_false h4];simp
     clear h2 h4;go_wp2_with fail
     go_ret;exact⟨by show Ending.returned (.bool false)=_;rw[HE.out],HR.out.2⟩
   ·have y2:¬ (2:Int)<=(i:Int):=Om;have HE:Hid (R=false):=by show _=_;rw[HRF.out,decide_eq_false h2];rfl
    clear h2;go_wp2_with fail
    go_ret;exact⟨by show Ending.returned (.bool false)=_;rw[HE.out],HR.out.2⟩
end
section
open Go.RowKit DT SP
theorem Be{sep:List UInt8}{b:UInt8}:∀ {r:List (List UInt8)},b∈Lib.joinTail sep r->b∈sep\/∃ x∈r,b∈x
 | [],h=>by simp[Lib.joinTail]at h
 | x::r,h=>by
  rw[Vg,List.mem_append,List.mem_append]at h;rcases h with (h|h)|h
  ·exact .inl h
  ·exact .inr ⟨x,by simp,h⟩
  ·rcases Be h with q|⟨y,hy,q⟩
   ·exact .inl q
   ·exact .inr ⟨y,by simp[hy],q⟩
theorem Zih{sep:List UInt8}{b:UInt8}{xs:List (List UInt8)}(h:b∈Lib.join xs sep):b∈sep\/∃ x∈xs,b∈x:=by
 cases xs with
 | nil=>rw[Lib.join_nil]at h;cases h
 | cons x r =>
  rw[Lib.join_cons,List.mem_append]at h;rcases h with h|h
  ·exact .inr ⟨x,by simp,h⟩
  ·rcases Be h with q|⟨y,hy,q⟩
   ·exact .inl q
   ·exact .inr ⟨y,by simp[hy],q⟩
theorem Bf:∀ r:List ByteArray,(Lib.joinTail [7] (r.map (·.data.toList))).length=total r
 | []=>rfl
 | x::r=>by
  rw[List.map_cons,Vg,List.length_append,Bf r];show ([7]++x.data.toList).length+total r=x.data.size+1+total r;simp only[List.length_append,List.length_cons,List.length_nil,Array.length_toList];omega
theorem Zkr(xs:List ByteArray):(Ug xs).length<=total xs:=by
 unfold Ug
 cases xs with
 | nil=>simp[Lib.join_nil]
 | cons x r =>
  rw[List.map_cons,Lib.join_cons,List.length_append,Bf r];show x.data.toList.length+total r<=x.data.size+1+total r;rw[Array.length_toList];omega
theorem Zfx(xs:List ByteArray):xs.length<=total xs:=by
 induction xs with
 | nil=>exact Nat.zero_le _
 | cons x r ih=>show r.length+1<=x.size+1+total r;omega
theorem Zg8{α:Type}(f:α->Nat):∀ {l:List α} {x:α},x∈l->f x<=(l.map f).sum
 | a::l,x,h=>by
  rw[List.map_cons,List.sum_cons];rcases List.mem_cons.1 h with rfl|h
  ·omega
  ·have:=Zg8 f h;omega
theorem Zd6{s:ByteArray}{c:UInt8}(h:inB s c=false):c ∉ s.data.toList:=λe=>by
 have:inB s c=true:=List.contains_iff_mem.2 e;rw[h]at this;cases this
theorem Zgf{ls:List (List ByteArray)}(h:Io ls=true):RowsFit ls/\∀ xs∈ls,xs≠[]/\∀ s∈xs,(10:UInt8) ∉ s.data.toList/\(7:UInt8) ∉ s.data.toList:=by
 unfold Io Sh at h;simp only[Bool.and_eq_true,decide_eq_true_eq,List.all_eq_true]at h;obtain⟨h1,h2,h3,h4⟩:=h
 have key:∀ xs∈ls,xs≠[]/\∀ s∈xs,(10:UInt8) ∉ s.data.toList/\(7:UInt8) ∉ s.data.toList:=λxs hx=>by
  have:=h1 xs hx;unfold okR okS at this;simp only[Bool.and_eq_true,decide_eq_true_eq,List.all_eq_true,Bool.not_eq_true']at this;exact⟨λe=>this.2 (by rw[e];rfl),λs hs=>⟨Zd6 (this.1 s hs).1,Zd6 (this.1 s hs).2⟩⟩
 refine⟨⟨h2,Om,λxs hx=>?_⟩,key⟩;have h5:=Zg8 total hx;have h6:=Zkr xs;have h7:=Zfx xs;exact⟨(key xs hx).1,Om,Om⟩
theorem Ol:∀ {ls:List (List ByteArray)},ls≠[]->Td ls=Lib.join (ls.map Ug) [10]
 | [],h=>absurd rfl h
 | [x],_=>by rw[List.map_cons,List.map_nil,Lib.join_one];rfl
 | x::y::r,_=>by
  have ih:=Ol (ls:=y::r) (by simp);rw[List.map_cons,List.map_cons,Lib.join_cons,Vg,List.append_assoc,<- Lib.join_cons,<- List.map_cons,<- ih];unfold Td;have e1:(x::y::r).length-1=(y::r).length-1+1:=by simp
  rw[e1,List.take_succ_cons];show (Ug x++[10]++Vr _)++Ug (List.getD (y::r) _ [])=_;simp only[List.append_assoc]
theorem toB(s:ByteArray):(⟨s.data.toList.toArray⟩:ByteArray)=s:=by rw[Array.toArray_toList]
theorem Zb7{ls:List (List ByteArray)}(hne:ls≠[])(h:∀ xs∈ls,xs≠[]/\∀ s∈xs,(10:UInt8) ∉ s.data.toList/\(7:UInt8) ∉ s.data.toList):Oa ⟨(Td ls).toArray⟩=ls:=by
 have h10:∀ x∈ls.map Ug,(10:UInt8) ∉ x:=λx hx e=>by
  obtain⟨xs,hxs,rfl⟩:=List.mem_map.1 hx;rcases Zih e with q|⟨y,hy,q⟩
  ·exact absurd (List.mem_singleton.1 q) (by decide)
  ·obtain⟨s,hs,rfl⟩:=List.mem_map.1 hy;exact ((h xs hxs).2 s hs).1 q
 unfold Oa Wz;show ((Rl 10 ((Td ls).toArray.toList)).map _).map _=_;rw[List.toList_toArray,Ol hne,G7 _ (by simpa using hne) h10,List.map_map,List.map_map]
 conv=>rhs;rw[<- List.map_id ls]
 apply List.map_congr_left;intro xs hxs;show (Rl 7 ((Ug xs).toArray.toList)).map _=xs;rw[List.toList_toArray];unfold Ug;rw[G7 _ (by simpa using (h xs hxs).1) (λx hx=>by obtain⟨s,hs,rfl⟩:=List.mem_map.1 hx;exact ((h xs hxs).2 s hs).2),List.map_map]
 conv=>rhs;rw[<- List.map_id xs]
 apply List.map_congr_left;intro s _;exact toB s
theorem Zg3{ls:List (List ByteArray)}(h:2<=ls.length):Td ls≠[]:=by
 obtain⟨x,y,r,rfl⟩:∃ x y r,ls=x::y::r:=by
  rcases ls with _|⟨x,_|⟨y,r⟩⟩
  ·simp at h
  ·simp at h
  ·exact⟨x,y,r,rfl⟩
 rw[Ol (by simp),List.map_cons,List.map_cons,Lib.join_cons,Vg];simp
theorem Zg4{ls:List (List ByteArray)}(h:RowsFit ls):(Td ls).length<=2147483647:=by
 unfold Td;rw[List.length_append];have h1:=Hy (ls:=ls.take (ls.length-1)) (λxs hx=>(h.some xs (List.mem_of_mem_take hx)).2.1);have h2:(ls.take (ls.length-1)).length<=1000:=by rw[List.length_take];have:=h.few;omega
 have h3:(Ug (ls.getD (ls.length-1) [])).length<=100000:=by
  have:=h.two;rw[List.getD_eq_getElem?_getD,Ge ((Om:ls.length-1<ls.length))];exact (h.some _ (List.getElem_mem _)).2.1
 have h4:(ls.take (ls.length-1)).length*100001<=1000*100001:=Nat.mul_le_mul_right _ h2;omega
end
end Go.Proofs.YtlfoalomaofejaaGreatDoor
