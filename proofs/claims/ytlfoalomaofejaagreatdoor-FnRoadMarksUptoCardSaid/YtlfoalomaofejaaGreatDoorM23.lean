/- Plain facts of a text's charac -/
import Derived.Test.YtlfoalomaofejaaGreatDoorM16
import Derived.Test.YtlfoalomaofejaaGreatDoorM18
set_option linter.all false
set_option maxRecDepth 100000
set_option maxHeartbeats 4000000
section
namespace LT
open Go Go.Lib UC
def Rd(s:ByteArray):Prop:=∀ c∈Zd s,Good c/\Xi c≠65533
theorem T2(s:ByteArray):(Zd s).flatten=s.data.toList:=Ut _
theorem Tz(s:ByteArray):runeCount s=(Zd s).length:=count_chunk s
theorem Mw(h:List (List UInt8))(k:Nat)(q:k<h.length):bp h (k+1)=bp h k+h[k].length:=by
 unfold bp;rw[List.take_succ_eq_append_getElem q,List.flatten_append,List.length_append,List.flatten_singleton]
theorem L4(s:ByteArray):bp (Zd s) (Zd s).length=s.size:=by
 unfold bp;rw[List.take_length,T2,Array.length_toList];rfl
theorem Zkn(h:List (List UInt8))(a n:Nat):bp h (a+n)=bp h a+((h.drop a).take n).flatten.length:=by
 unfold bp;rw[List.take_add,List.flatten_append,List.length_append]
theorem Mx(q:List (List UInt8)){a b:Nat}(h:a<=b):bp q a<=bp q b:=by
 obtain⟨n,rfl⟩:=Nat.exists_eq_add_of_le h;rw[Zkn];omega
theorem My(s:ByteArray)(k:Nat):bp (Zd s) k<=s.size:=by
 rcases Nat.lt_or_ge (Zd s).length k with h|h
 ·have:bp (Zd s) k=bp (Zd s) (Zd s).length:=by
   unfold bp;rw[List.take_of_length_le Om,List.take_length]
  rw[this,L4];omega
 ·rw[<- L4 s];exact Mx _ h
theorem Cv(h:List (List UInt8))(k:Nat):h.flatten.drop (bp h k)=(h.drop k).flatten:=by
 have:h.flatten=(h.take k).flatten++(h.drop k).flatten:=by rw[<- List.flatten_append,List.take_append_drop]
 rw[this];exact List.drop_left' rfl
theorem Zlf(h:List (List UInt8))(k:Nat):h.flatten.take (bp h k)=(h.take k).flatten:=by
 have:h.flatten=(h.take k).flatten++(h.drop k).flatten:=by rw[<- List.flatten_append,List.take_append_drop]
 rw[this];exact List.take_left' rfl
theorem ext_list(s:ByteArray)(a b:Nat):(s.extract a b).data.toList=(s.data.toList.take b).drop a:=by
 rw[ByteArray.data_extract,Array.toList_extract];simp[List.drop_take]
theorem Cu(s:ByteArray)(a b:Nat)(h:a<=b):(s.extract (bp (Zd s) a) (bp (Zd s) b)).data.toList=((Zd s).drop a |>.take (b-a)).flatten:=by
 rw[ext_list,<- T2 s,Zlf]
 have e:(Zd s).take b=(Zd s).take a++((Zd s).drop a).take (b-a):=by
  conv=>lhs;rw[(Om:b=a+(b-a))]
  rw[List.take_add]
 rw[e,List.flatten_append];exact List.drop_left' rfl
theorem Hc{s:ByteArray}(q:Rd s)(a b:Nat)(h:a<=b)(A:b<=(Zd s).length):runeCount (s.extract (bp (Zd s) a) (bp (Zd s) b))=b-a:=by
 rw[count_chunk,Cu s a b h,Ou _ (λc z=>(q c (List.mem_of_mem_drop (List.mem_of_mem_take z))).1),List.length_take,List.length_drop];omega
theorem Dp(s:ByteArray)(k:Nat):(s.extract (bp (Zd s) k) s.size).data.toList=((Zd s).drop k).flatten:=by
 rw[ext_list,<- Cv,T2,List.take_of_length_le];rw[Array.length_toList];exact Nl _
theorem Zdu{s:ByteArray}(z:Rd s)(k:Nat)(h:k<(Zd s).length):Utf8.decode s (bp (Zd s) k)=(Xi (Zd s)[k],(Zd s)[k].length):=by
 have q:=(z _ (List.getElem_mem h)).1;rw[<- decodeL_drop,<- T2 s,Cv,List.drop_eq_getElem_cons h,List.flatten_cons,To q];exact Prod.ext rfl q.2.1
theorem Zkg{s:ByteArray}(z:Rd s)(k:Nat)(h:k<(Zd s).length):decodeL (s.extract (bp (Zd s) k) s.size).data.toList=(Xi (Zd s)[k],(Zd s)[k].length):=by
 have q:=(z _ (List.getElem_mem h)).1;rw[Dp,List.drop_eq_getElem_cons h,List.flatten_cons,To q];exact Prod.ext rfl q.2.1
theorem Zl8{s:ByteArray}(z:Rd s)(a b:Nat)(h:a<b)(A:b<=(Zd s).length):decodeLastL (s.extract (bp (Zd s) a) (bp (Zd s) b)).data.toList=(Xi ((Zd s)[b-1]' Om),((Zd s)[b-1]' Om).length):=by
 have q:=(z _ (List.getElem_mem ((Om:b-1<(Zd s).length)))).1
 have e:((Zd s).drop a).take (b-a)=((Zd s).drop a).take (b-1-a)++[(Zd s)[b-1]' Om]:=by
  rw[(Om:b-a=b-1-a+1),List.take_succ_eq_append_getElem (by rw[List.length_drop];omega)];simp only[List.getElem_drop];congr 2;simp only[(Om:a+(b-1-a)=b-1)]
 rw[Cu s a b Om,e,List.flatten_append,List.flatten_singleton,Fh q];exact Prod.ext rfl q.2.1
theorem Js{s p:ByteArray}(A:Rd s)(k:Nat)(J:k<=(Zd s).length)(z:validD p.data.toList=true)(hp:p.data.toList <+: (s.extract (bp (Zd s) k) s.size).data.toList) :
  bp (Zd s) k+p.size=bp (Zd s) (k+(Xl p.data.toList).length)/\k+(Xl p.data.toList).length<=(Zd s).length/\s.extract (bp (Zd s) k) (bp (Zd s) k+p.size)=p:=by
 rw[Dp]at hp;have h1:=Mu (Xl p.data.toList) ((Zd s).drop k) (valid_good z) (λc G=>(A c (List.mem_of_mem_drop G)).1) (by rw[Ut];exact hp);have hl:=h1.length_le;rw[List.length_drop]at hl;have e:((Zd s).drop k).take (Xl p.data.toList).length=Xl p.data.toList:=(List.prefix_iff_eq_take.1 h1).symm;have h:p.size=(Xl p.data.toList).flatten.length:=by rw[Ut,Array.length_toList];rfl
 have q:bp (Zd s) k+p.size=bp (Zd s) (k+(Xl p.data.toList).length):=by rw[Zkn,e,h]
 refine⟨q,Om,?_⟩
 have I:(s.extract (bp (Zd s) k) (bp (Zd s) k+p.size)).data.toList=p.data.toList:=by
  rw[q,Cu s _ _ Om,(Om:k+(Xl p.data.toList).length-k=(Xl p.data.toList).length),e,Ut]
 exact ByteArray.ext (Array.toList_inj.1 I)
end LT
end
namespace Go.Proofs.YtlfoalomaofejaaGreatDoor
section
open Go.RowKit Go.Shelf LT
theorem Zad(r:Int)(w:World):Calls Tryz.prog 195 #[.int .i32 r] w λe w'=>e=.returned (.int .i64 (Lib.runeLen r))/\w'=w:=Any.utf8_RuneLen laysRl r w
theorem Zbw(s:ByteArray)(w:World)(q:s.size<=9223372036854775807)(z:U8 w):Calls Tryz.prog 197 #[.string s] w λe w'=>e=.returned (.tuple #[.int .i32 (Lib.decodeLastL s.data.toList).1,.int .i64 (Lib.decodeLastL s.data.toList).2])/\Zf w w' :=
 (Any.utf8_DecodeLastRuneInString laysLast s w q z).mono λ_ _ h=>⟨h.1,Fr.of_below h.2⟩
theorem Zmo(s:ByteArray)(w:World)(q:U8 w):Calls Tryz.prog 196 #[.string s] w λe w'=>e=.returned (.tuple #[.int .i32 (Lib.decodeGo s).1,.int .i64 (Lib.decodeGo s).2])/\Zf w w' :=
 (Any.utf8_DecodeRuneInString laysDec s w q).mono λ_ _ h=>⟨h.1,Fr.of_below h.2⟩
theorem Zcw{s:ByteArray}(q:Rd s)(k:Nat)(z:k<(Zd s).length):Lib.runeLen (Xi (Zd s)[k]:Int)=((Zd s)[k].length:Int):=by
 have h:=q _ (List.getElem_mem z);have:=Lib.runeLen_decode (Zd s)[k] h.2;rw[h.1.2.1]at this;exact this
theorem Zki{s:ByteArray}(z:Rd s)(k:Nat)(q:k<(Zd s).length):Lib.decodeGo (s.extract (bp (Zd s) k) s.size)=(Xi (Zd s)[k],(Zd s)[k].length):=by
 have h1:=Zkg z k q;have h2:Lib.decodeL (s.extract (bp (Zd s) k) s.size).data.toList=Utf8.decode (s.extract (bp (Zd s) k) s.size) 0:=by rw[<- Lib.decodeL_drop,List.drop_zero]
 have h:¬ (s.extract (bp (Zd s) k) s.size).size=0:=by
  intro e;have hl:=congrArg List.length (Dp s k);rw[Array.length_toList,List.drop_eq_getElem_cons q,List.flatten_cons,List.length_append]at hl;have:=List.length_pos_iff.2 (z _ (List.getElem_mem q)).1.1;have A:(s.extract (bp (Zd s) k) s.size).data.size=0:=e;omega
 unfold Lib.decodeGo;rw[if_neg h,<- h2,h1]
end
end Go.Proofs.YtlfoalomaofejaaGreatDoor
section
namespace LT
open Go Go.Lib UC
theorem On(D:Dk)(h:Int)(ns:List Nd)(t n:Nat):∀ (l:List Nat) (st:St) (f:Bool),Vi D h ns t st f (l++[n])=relax D h ns t (Vi D h ns t st f l) (f&&l.isEmpty) n
 | [],st,f=>by cases f<;>rfl
 | a::l,st,f=>by
  show Vi D h ns t (relax D h ns t st f a) false (l++[n])=_;rw[On D h ns t n l];cases f<;>rfl
def rel(D:Dk)(h:Int)(ns:List Nd)(t:Nat)(st:St)(l:List Nat)(j:Nat):St:=Vi D h ns t st true (l.take j)
theorem Zis(D:Dk)(h:Int)(ns:List Nd)(t:Nat)(st:St)(l:List Nat):rel D h ns t st l 0=st:=rfl
theorem Zit(D:Dk)(h:Int)(ns:List Nd)(t:Nat)(st:St)(l:List Nat)(j:Nat)(q:j<l.length):rel D h ns t st l (j+1)=relax D h ns t (rel D h ns t st l j) (decide (j=0)) l[j]:=by
 unfold rel;rw[List.take_succ_eq_append_getElem q,On];congr 1
 cases j with
 | zero=>rfl
 | succ j =>
  have:(List.take (j+1) l).isEmpty=false:=by
   cases l with
   | nil=>simp at q
   | cons a l=>rfl
  rw[this];simp
theorem Zlq(D:Dk)(h:Int)(ns:List Nd)(t:Nat)(st:St)(l:List Nat):rel D h ns t st l l.length=Vi D h ns t st true l:=by
 unfold rel;rw[List.take_length]
def Cm(D:Dk)(h:Int)(ns:List Nd)(st:St)(p j:Nat):St:=((row ns p).take j).foldl (Wl D h ns) st
theorem Zha(D:Dk)(h:Int)(ns:List Nd)(st:St)(p j:Nat)(q:j<(row ns p).length):Cm D h ns st p (j+1)=Wl D h ns (Cm D h ns st p j) (row ns p)[j]:=by
 unfold Cm;rw[List.take_succ_eq_append_getElem q,List.foldl_append];rfl
theorem Zjz(D:Dk)(h:Int)(ns:List Nd)(st:St)(p:Nat):Cm D h ns st p (row ns p).length=Cl D h ns st p:=by
 unfold Cm Cl;rw[List.take_length]
def Xs(st:St):Prop:=∀ k,-2147483648<=st.cost k/\st.cost k<=2147483647
theorem wrap32_in(x:Int):-2147483648<=wrap32 x/\wrap32 x<=2147483647:=by
 unfold wrap32;rw[IntKind.wrap_i32];omega
theorem Nq{β:Type}(f:Nat->β)(k:Nat)(v:β):Oj f k v k=v:=by simp[Oj]
theorem Sh{β:Type}(f:Nat->β){k x:Nat}(v:β)(h:x≠k):Oj f k v x=f x:=by simp[Oj,h]
theorem Xs.up{st:St}(h:Xs st)(t:Nat)(c:Int)(q:Nat->Option Nat)(z:-2147483648<=c/\c<=2147483647):Xs ⟨Oj st.cost t c,q⟩:=λk=>by
 show -2147483648<=Oj st.cost t c k/\Oj st.cost t c k<=2147483647;by_cases e:k=t
 ·rw[e,Nq];exact z
 ·rw[Sh _ _ e];exact h k
theorem Xs.relax{D:Dk}{q:Int}{ns:List Nd}{t n:Nat}{st:St}{f:Bool}(h:Xs st):Xs (relax D q ns t st f n):=by
 unfold LT.relax
 split
 ·exact h.up t _ _ (wrap32_in _)
 ·exact h
theorem Vt{ns:List Nd}{p m:Nat}(h:m∈row ns p):m<ns.length/\(ns.getD m default).fin=p:=by
 unfold row at h;obtain⟨h1,h2⟩:=List.mem_filter.1 h;exact⟨List.mem_range.1 h1,by simpa using h2⟩
theorem Zdo(D:Dk)(h:Int)(ns:List Nd)(p:Nat)(hp:1<=p):Vy D h ns (p+1)=Cl D h ns (Vy D h ns p) p:=by
 show (if p=0 then _ else _)=_;rw[if_neg Om]
end LT
namespace Go.Proofs.YtlfoalomaofejaaGreatDoor
open Go.RowKit LT
variable{w:World}{g R:Nat}{vs:Nat->Value}{ns:List Nd}{nb:Nat->Nat}{cost:Nat->Int}{prev:Nat->Option Nat}
theorem Yx{w:World}{b:Nat}{cs:Array Value}{T:TypeId}(h:w.heap[b]?=some (.cells cs T (0,0)))(j:Nat)(u:Value):(w.setCell ⟨b,j,none⟩ u).heap[b]?=some (.cells (cs.setIfInBounds j u) T (0,0)):=by
 simp[World.setCell,Array.getElem?_modify,h]
theorem Yp.setCost(h:Yp w g R vs ns nb cost prev)(t:Nat)(G:t<ns.length)(c:Int):Yp (w.setCell ⟨nb t,4,none⟩ (.int .i32 c)) g R vs ns nb (Oj cost t c) prev:=by
 have F:Fr (λj=>j=nb t) w (w.setCell ⟨nb t,4,none⟩ (.int .i32 c)):=(Fr.refl (λj=>j=nb t) w).setCell ⟨nb t,4,none⟩ _ (λ_=>rfl);have z:=h.noff t G;refine⟨λp hp=>⟨F.cell (h.cell p hp).1 (λe=>z.1 e.symm),(F.frozen (h.cell p hp).1 (λe=>z.1 e.symm)).trans (h.cell p hp).2⟩,λp hp=>Zr (h.row p hp) F (λj e q=>z.2 p hp (by rw[e,q])),h.apart,h.offg,λm A=>?_,h.noff,h.inj⟩;by_cases e:m=t
 ·subst e;rw[Nq];exact Yx (h.node m A) 4 _
 ·rw[Sh _ _ e];exact F.heap (h.node m A) (λq=>e (h.inj m t A G q))
theorem Yp.setPrev(h:Yp w g R vs ns nb cost prev)(t:Nat)(G:t<ns.length)(n:Nat):Yp (w.setCell ⟨nb t,9,none⟩ (.pointer (some ⟨nb n,0,none⟩))) g R vs ns nb cost (Oj prev t (some n)):=by
 have F:Fr (λj=>j=nb t) w (w.setCell ⟨nb t,9,none⟩ (.pointer (some ⟨nb n,0,none⟩))):=(Fr.refl (λj=>j=nb t) w).setCell ⟨nb t,9,none⟩ _ (λ_=>rfl);have z:=h.noff t G;refine⟨λp hp=>⟨F.cell (h.cell p hp).1 (λe=>z.1 e.symm),(F.frozen (h.cell p hp).1 (λe=>z.1 e.symm)).trans (h.cell p hp).2⟩,λp hp=>Zr (h.row p hp) F (λj e q=>z.2 p hp (by rw[e,q])),h.apart,h.offg,λm A=>?_,h.noff,h.inj⟩;by_cases e:m=t
 ·subst e;rw[Nq];exact Yx (h.node m A) 9 _
 ·rw[Sh _ _ e];exact F.heap (h.node m A) (λq=>e (h.inj m t A G q))
theorem Yp.getElem(h:Yp w g R vs ns nb cost prev)(p:Nat)(hp:p<R)(i:Nat)(hi:i<(LT.row ns p).length):∃ q c,vs p=.slice (some ⟨q,0,none⟩) (LT.row ns p).length c/\w.cell? ⟨q,i,none⟩=some (.pointer (some ⟨nb (LT.row ns p)[i],0,none⟩)):=by
 have z:=h.row p hp;rcases id z.2 with ⟨_,e⟩|⟨q,cap,A,e,_⟩
 ·rw[e]at hi;simp at hi
 ·refine⟨q,cap,e,?_⟩;have:=z.cells (g:=q) (by rw[e];rfl) i (.pointer (some ⟨nb (LT.row ns p)[i],0,none⟩)) (by simp[hi]);rw[Addr.add_lit,Nat.zero_add]at this;exact this
end Go.Proofs.YtlfoalomaofejaaGreatDoor
end
section
namespace UC
open Go Go.Lib
theorem Znv(r:Nat)(A:r<55296\/(57343<r/\r<=1114111)):(Utf8.encode (r:Int)).data.toList=encodeRune (r:Int):=by
 have h1:Utf8.valid (r:Int)=true:=by
  simp only[Utf8.valid,Bool.or_eq_true,Bool.and_eq_true,decide_eq_true_eq];omega
 have h2:((r:Int)).toNat=r:=Om
 unfold Utf8.encode encodeRune;simp only[h1,if_true,h2];have b:∀ n:Nat,((n:Int)).toNat.toUInt8=UInt8.ofNat n:=λn=>by rw[(Om:((n:Int)).toNat=n)]
 by_cases z:r<128
 ·rw[if_pos z,encodeRuneZ_one Om Om];simp only[List.map_cons,List.map_nil,b]
 ·rw[if_neg z];by_cases q:r<2048
  ·rw[if_pos q,encodeRuneZ_two Om Om];simp only[List.map_cons,List.map_nil,(Om:(192:Int)+(r:Int) / 64=((192+r / 64:Nat):Int)),(Om:(128:Int)+(r:Int) % 64=((128+r % 64:Nat):Int)),b]
  ·rw[if_neg q];by_cases h:r<65536
   ·rw[if_pos h,encodeRuneZ_three Om];simp only[List.map_cons,List.map_nil,(Om:(224:Int)+(r:Int) / 4096=((224+r / 4096:Nat):Int)),(Om:(128:Int)+(r:Int) / 64 % 64=((128+r / 64 % 64:Nat):Int)),(Om:(128:Int)+(r:Int) % 64=((128+r % 64:Nat):Int)),b]
   ·rw[if_neg h,encodeRuneZ_four Om Om];simp only[List.map_cons,List.map_nil,(Om:(240:Int)+(r:Int) / 262144=((240+r / 262144:Nat):Int)),(Om:(128:Int)+(r:Int) / 4096 % 64=((128+r / 4096 % 64:Nat):Int)),(Om:(128:Int)+(r:Int) / 64 % 64=((128+r / 64 % 64:Nat):Int)),(Om:(128:Int)+(r:Int) % 64=((128+r % 64:Nat):Int)),b]
theorem Zg9{c:List UInt8}(h:Good c):(decodeL c).1<55296\/(57343<(decodeL c).1/\(decodeL c).1<=1114111):=by
 have hl:0<c.length:=List.length_pos_iff.2 h.1;have h3:=h.2.2;rw[decodeL_N]at h3⊢;rcases decodeN_shape c.length (c.getD 0 0).toNat (c.getD 1 0).toNat (c.getD 2 0).toNat (c.getD 3 0).toNat with ⟨c,e⟩|⟨G,A,z,q,e⟩|⟨G,A,z,I,q,cs,e⟩|⟨G,A,z,I,K,q,J,e⟩|e
 ·rw[e];dsimp only;omega
 ·rw[e];dsimp only;omega
 ·rw[e];dsimp only;omega
 ·rw[e];dsimp only;omega
 ·rw[e]at h3;exact absurd ⟨rfl,rfl⟩ h3
theorem enc_good{c:List UInt8}(h:Good c):Utf8.encode ((decodeL c).1:Int)=⟨c.toArray⟩:=by
 have e:(Utf8.encode ((decodeL c).1:Int)).data.toList=c:=by
  rw[Znv _ (Zg9 h),encode_decode c h.1 h.2.2,h.2.1,List.take_length]
 have:(Utf8.encode ((decodeL c).1:Int)).data=c.toArray:=by
  apply Array.toList_inj.1;rw[e]
 cases q:Utf8.encode ((decodeL c).1:Int) with
 | mk d=>rw[q]at this;simp only at this;rw[this]
end UC
namespace LT
open Go Go.Lib UC
def Wu(ns:List Nd)(st:St):Prop:=∀ t n,st.prev t=some n->n∈row ns (ns.getD t default).start
theorem Wu.relax{D:Dk}{A:Int}{ns:List Nd}{t n:Nat}{st:St}{f:Bool}(h:Wu ns st)(I:n∈row ns (ns.getD t default).start):Wu ns (relax D A ns t st f n):=by
 unfold LT.relax
 split
 ·intro z m G;by_cases e:z=t
  ·subst e;have q:Oj st.prev z (some n) z=some m:=G;rw[Nq]at q;injection q with q
   rw[<- q];exact I
  ·have q:Oj st.prev t (some n) z=some m:=G;rw[Sh _ _ e]at q;exact h z m q
 ·exact h
theorem Wu.all{D:Dk}{q:Int}{ns:List Nd}{t:Nat}:∀ (l:List Nat) (st:St) (f:Bool),Wu ns st->(∀ n∈l,n∈row ns (ns.getD t default).start)->Wu ns (Vi D q ns t st f l)
 | [],_,_,h,_=>h
 | a::l,st,f,h,hl=>Wu.all l _ false (h.relax (hl a (by simp))) (λn z=>hl n (by simp[z]))
theorem Wu.node{D:Dk}{q:Int}{ns:List Nd}{st:St}(h:Wu ns st)(t:Nat):Wu ns (Wl D q ns st t):=by
 unfold Wl
 split
 ·exact h
 ·exact Wu.all _ _ _ h (λn z=>z)
theorem Wu.row{D:Dk}{q:Int}{ns:List Nd}:∀ (l:List Nat) (st:St),Wu ns st->Wu ns (l.foldl (Wl D q ns) st)
 | [],_,h=>h
 | a::l,_,h=>Wu.row l _ (h.node a)
theorem G0(D:Dk)(q:Int)(ns:List Nd):∀ p,Wu ns (Vy D q ns p)
 | 0=>λt n h=>by cases h
 | p+1=>by
  show Wu ns (if p=0 then _ else _)
  split
  ·exact λt n h=>by cases h
  ·exact Wu.row _ _ (G0 D q ns p)
def Zhu(ns:List Nd)(prev:Nat->Option Nat):Prop:=∀ t n,prev t=some n->n<ns.length/\(ns.getD n default).fin<(ns.getD t default).fin
def Xp(ns:List Nd)(st:St):Prop:=∀ t n,st.prev t=some n->t<ns.length/\1<=(ns.getD t default).fin
theorem Xp.relax{D:Dk}{q:Int}{ns:List Nd}{t n:Nat}{st:St}{f:Bool}(h:Xp ns st)(G:t<ns.length/\1<=(ns.getD t default).fin):Xp ns (relax D q ns t st f n):=by
 unfold LT.relax
 split
 ·intro A m I;by_cases e:A=t
  ·subst e;exact G
  ·have z:Oj st.prev t (some n) A=some m:=I;rw[Sh _ _ e]at z;exact h A m z
 ·exact h
theorem Xp.all{D:Dk}{q:Int}{ns:List Nd}{t:Nat}(z:t<ns.length/\1<=(ns.getD t default).fin):∀ (l:List Nat) (st:St) (f:Bool),Xp ns st->Xp ns (Vi D q ns t st f l)
 | [],_,_,h=>h
 | _::l,_,_,h=>Xp.all z l _ false (h.relax z)
theorem Xp.node{D:Dk}{q:Int}{ns:List Nd}{st:St}(h:Xp ns st){t:Nat}(z:t<ns.length/\1<=(ns.getD t default).fin):Xp ns (Wl D q ns st t):=by
 unfold Wl
 split
 ·exact h
 ·exact Xp.all z _ _ _ h
theorem Xp.row{D:Dk}{q:Int}{ns:List Nd}{p:Nat}(hp:1<=p):∀ (l:List Nat) (st:St),(∀ t∈l,t∈LT.row ns p)->Xp ns st->Xp ns (l.foldl (Wl D q ns) st)
 | [],_,_,h=>h
 | a::l,_,hl,h=>by
  obtain⟨h1,h2⟩:=Vt (hl a (by simp));exact Xp.row hp l _ (λt z=>hl t (by simp[z])) (h.node ⟨h1,Om⟩)
theorem Ih(D:Dk)(q:Int)(ns:List Nd):∀ p,Xp ns (Vy D q ns p)
 | 0=>λt n h=>by cases h
 | p+1=>by
  show Xp ns (if p=0 then _ else _)
  split
  ·exact λt n h=>by cases h
  next hp=>exact Xp.row ((Om:1<=p)) _ _ (λ_ h=>h) (Ih D q ns p)
theorem Ms(D:Dk)(q:Int)(ns:List Nd)(z:∀ x∈ns,1<=x.fin->x.start<x.fin)(p:Nat):Zhu ns (Vy D q ns p).prev:=by
 intro t n h;obtain⟨h1,h2⟩:=Ih D q ns p t n h;obtain⟨h3,h4⟩:=Vt (G0 D q ns p t n h);refine⟨h3,?_⟩;rw[h4];have e:ns.getD t default=ns[t]:=by rw[List.getD_eq_getElem?_getD,Ge h1];rfl
 rw[e]at h2⊢;exact z _ (List.getElem_mem h1) h2
def way(ns:List Nd)(prev:Nat->Option Nat)(t:Nat):List Nat:=back prev ((ns.getD t default).fin+1) t
theorem L6{ns:List Nd}{prev:Nat->Option Nat}(h:Zhu ns prev):∀ (f t:Nat),(ns.getD t default).fin+1<=f->back prev f t=way ns prev t
 | 0,t,hf=>by omega
 | f+1,t,hf=>by
  unfold way back
  cases e:prev t with
  | none=>rfl
  | some n =>
   have:=(h t n e).2;simp only;rw[L6 h f n Om,L6 h (ns.getD t default).fin n Om]
 termination_by f=>f
def Tc(ns:List Nd)(prev:Nat->Option Nat):Option Nat->List Nat
 | none=>[]
 | some t=>way ns prev t
theorem Zfr{ns:List Nd}{prev:Nat->Option Nat}(h:Zhu ns prev)(t:Nat):Tc ns prev (some t)=t::Tc ns prev (prev t):=by
 show back prev ((ns.getD t default).fin+1) t=_;show t::_=_;congr 1
 cases e:prev t with
 | none=>rfl
 | some n=>exact L6 h _ n (by have:=(h t n e).2;omega)
theorem Zec{ns:List Nd}{prev:Nat->Option Nat}:∀ (f t:Nat),(back prev f t).length<=f
 | 0,_=>by simp[back]
 | f+1,t=>by
  unfold back
  cases e:prev t with
  | none=>simp
  | some n=>simp only[List.length_cons];have:=Zec (ns:=ns) (prev:=prev) f n;omega
theorem P3{ns:List Nd}{prev:Nat->Option Nat}(h:Zhu ns prev):∀ (f t:Nat),t<ns.length->∀ m∈back prev f t,m<ns.length
 | 0,_,_,m,q=>by simp[back]at q
 | f+1,t,ht,m,q=>by
  unfold back at q;rcases List.mem_cons.1 q with rfl|q
  ·exact ht
  ·cases e:prev t with
   | none=>rw[e]at q;cases q
   | some n=>rw[e]at q;exact P3 h f n (h t n e).1 m q
def Pd(x:Nd)(i:Nat):Nd:=⟨x.id,x.pos+bp (Zd x.surf) i,x.start+i,0,0,zeroM,⟨((Zd x.surf).getD i []).toArray⟩⟩
def Xf(h:Int)(x:Nd):List Nd:=if h≠3\/x.cls≠2 then [x] else ((List.range (Zd x.surf).length).map (Pd x)).reverse
theorem Zkh{s:ByteArray}(z:∀ c∈Zd s,Good c)(k:Nat)(h:k<(Zd s).length):Utf8.decode s (bp (Zd s) k)=(Xi (Zd s)[k],(Zd s)[k].length):=by
 have q:=z _ (List.getElem_mem h);rw[<- decodeL_drop,<- T2 s,Cv,List.drop_eq_getElem_cons h,List.flatten_cons,To q];exact Prod.ext rfl q.2.1
end LT
end
namespace Go.Proofs.YtlfoalomaofejaaGreatDoor
section
open Go.RowKit LT
def Lo(l:List (Nat×Nat)):List Value:=l.flatMap λx=>[.int .i32 (x.1:Int),.int .i32 (x.2:Int)]
theorem Io:∀ (l:List (Nat×Nat)) (k:Nat) (h:k<l.length),(Lo l)[k*2]?=some (.int .i32 (l[k].1:Int))/\(Lo l)[k*2+1]?=some (.int .i32 (l[k].2:Int))
 | m::l,0,_=>⟨rfl,rfl⟩
 | m::l,k+1,h=>by
  have:=Io l k (by simpa using h);have e:Lo (m::l)=.int .i32 (m.1:Int) :: .int .i32 (m.2:Int)::Lo l:=rfl;rw[e,(Om:(k+1)*2=k*2+1+1),(Om:k*2+1+1+1=(k*2+1)+1+1)];simp only[List.getElem?_cons_succ,List.getElem_cons_succ];exact this
theorem Zgv{w:World}{g:Nat}{l:List (Nat×Nat)}{T:TypeId}(h:w.heap[g]?=some (.cells (Lo l).toArray T (0,0)))(i:Nat)(hi:i<l.length):w.cell? ⟨g,i*2,none⟩=some (.int .i32 (l[i].1:Int))/\w.cell? ⟨g,i*2+1,none⟩=some (.int .i32 (l[i].2:Int)):=by
 obtain⟨a,b⟩:=Io l i hi;simp only[World.cell?,h];exact⟨by simpa using a,by simpa using b⟩
theorem I2(w:World):Calls Tryz.prog 284 #[] w λe w'=>∃ g c,e=.returned (.slice (some ⟨g,0,none⟩) 21 c)/\Zf w w'/\∀ i (h:i<ideo.length),w'.cell? ⟨g,i*2,none⟩=some (.int .i32 (ideo[i].1:Int))/\w'.cell? ⟨g,i*2+1,none⟩=some (.int .i32 (ideo[i].2:Int)):=by
 go_enter Tryz.func284,Tryz.ntmps284
 go_wp2_with fail
 first|go_ret|go_ret2
 exact⟨_,_,rfl,(Fl _).alloc _,Zgv (l:=ideo) (alloc_at w (.cells (Lo ideo).toArray 422))⟩
theorem Zb6{α:Type}(p:α->Bool)(xs:List α)(k:Nat)(q:k<xs.length)(h:(xs.take k).any p=false)(h1:p xs[k]=false):(xs.take (k+1)).any p=false:=by
 rw[List.take_succ_eq_append_getElem q,List.any_append,h];simp[h1]
theorem Jd(r:Nat)(w:World)(hr:r<=1114111):Calls Tryz.prog 267 #[.int .i32 (r:Int)] w λe w'=>e=.returned (.bool (Lv r))/\Zf w w':=by
 have h:ideo.length=21:=rfl;obtain⟨L,U⟩:∃ L,L=ideo:=⟨_,rfl⟩
 have q:∀ k (X:k<L.length),L[k].1<=1114111/\L[k].2<=1114111:=by
  rw[U];have:∀ x∈ideo,x.1<=1114111/\x.2<=1114111:=by decide
  exact λk X=>this _ (List.getElem_mem X)
 have C1:=I2 w;have K:Lv r=L.any λx=>decide (x.1<=r/\r<=x.2):=by rw[U];rfl
 rw[<- U]at C1 h;obtain⟨B,hB⟩:∃ B,B=L.any λx=>decide (x.1<=r/\r<=x.2):=⟨_,rfl⟩
 rw[K,<- hB];have HB:=Hd hB;clear K U hB;have HL:=Hd h;go_enter Tryz.func267,Tryz.ntmps267
 go_wp2_with (go_at_call 284;refine C1.mono ?_;rintro e w1 ⟨g,c,rfl,I,Y⟩;have M:=Hd I;have HG:=Hd Y;clear C1 I Y)
 go_loopg [7] 21 (λg1 v wr=>∃ k:Nat,v=.int .i64 k/\k<=21/\21<=k+g1/\Hid (Zf w1 wr)/\Hid ((L.take k).any (λx=>decide (x.1<=r/\r<=x.2))=false))
 case atStart=>exact⟨0,rfl,Om,Om,Fl _,rfl⟩
 case round =>
  obtain⟨k,rfl,X,Y,G,HA⟩:=hrel;by_cases ab:k<21
  ·have J:(k:Int)<21:=Om;have z:k<L.length:=Om;obtain⟨W,V⟩:=HG.out k z;have W:=G.out.cell W id;have V:=G.out.cell V id;obtain⟨b0,b1⟩:=q k z;generalize I:L[k]=x at W V b0 b1;obtain⟨lo,hi⟩:=x;have A:=Hd I;have LK:=Hd z;simp only at W V b0 b1;clear I q;by_cases h1:lo<=r
   ·have aa:(lo:Int)<=(r:Int):=Om;by_cases h2:r<=hi
    ·have Z:(r:Int)<=(hi:Int):=Om
     have e:(L.any λx=>decide (x.1<=r/\r<=x.2))=true:=by
      rw[List.any_eq_true];exact⟨_,List.getElem_mem LK.out,by rw[A.out];simp[h1,h2]⟩
     have E:Hid (B=true):=HB.out.trans e;clear e;go_wp2_with fail
     exact bodyPost_ret (results_tmp rfl _ _ _) rfl ⟨by rw[E.out];rfl,(M.out.then G.out).alloc _⟩
    ·have Z:¬ (r:Int)<=(hi:Int):=Om;go_wp2_with fail
     go_roundg (21-(k+1))
     case measure=>omega
     case rel=>exact⟨k+1,by go_num,Om,Om,G.out.alloc _,Zb6 _ _ k LK.out HA (by rw[A.out];simp;omega)⟩
   ·have aa:¬ (lo:Int)<=(r:Int):=Om;go_wp2_with fail
    go_roundg (21-(k+1))
    case measure=>omega
    case rel=>exact⟨k+1,by go_num,Om,Om,G.out.alloc _,Zb6 _ _ k LK.out HA (by rw[A.out];simp;omega)⟩
  ·have J:¬ (k:Int)<21:=Om
   have e:(L.any λx=>decide (x.1<=r/\r<=x.2))=false:=by
    have:=HA.out;rwa[List.take_of_length_le Om]at this
   have E:Hid (B=false):=HB.out.trans e;clear e;go_wp2_with fail
   first|go_ret|go_ret2
   exact⟨by rw[E.out];rfl,M.out.then G.out⟩
end
section
open Go.RowKit LT UC Go.Lib
theorem Zkl{s:ByteArray}(A:validD s.data.toList=true){pos:Nat}(hp:pos<s.size)(h:validD (s.data.toList.drop pos)=true) :
  ∃ c,Xl (s.data.toList.drop pos)=c::Xl (s.data.toList.drop (pos+(Utf8.decode s pos).2))/\Xi c=(Utf8.decode s pos).1/\validD (s.data.toList.drop (pos+(Utf8.decode s pos).2))=true:=by
 have z:s.data.toList.length=s.size:=by rw[Array.length_toList];rfl
 have q:s.data.toList.drop pos≠[]:=by
  intro e;have:=congrArg List.length e;rw[List.length_drop,z]at this;simp at this;omega
 have G:=valid_good h;have hd:=decodeL_drop s pos;rw[validD_step _ q]at h
 split at h
 ·cases h
 next hb =>
  refine⟨_,by rw[chunk_step _ q,hd,List.drop_drop],?_,by rw[hd,List.drop_drop]at h;exact h⟩;have:=(Ss q hb).2;rw[hd]at this;show (decodeL _).1=_;rw[this]
theorem Gc(s:ByteArray)(w:World)(hs:s.size<=1000000)(hv:validD s.data.toList=true):Calls Tryz.prog 239 #[.string s] w λe w'=>e=.returned (.bool (Fm s))/\Zf w w':=by
 obtain⟨X,z⟩:∃ A,A=(Zd s).all λc=>Lv (Xi c):=⟨_,rfl⟩
 have hk:Fm s=(!s.data.toList.isEmpty&&X):=by rw[z];rfl
 have ab:=Hd z;have HK:=Hd hk;have HV:=Hd hv;clear z hk hv;obtain⟨V,U⟩:∃ K,K=Fm s:=⟨_,rfl⟩;rw[<- U];have aa:=Hd U;clear U;go_enter Tryz.func239,Tryz.ntmps239
 go_wp2_with fail
 obtain⟨b,hb⟩:∃ b,b=w.heap.size:=⟨_,rfl⟩;rw[<- hb];have HB:=Hd hb;clear hb
 go_loopg [] s.size (λg1 wr=>∃ pos:Nat,Hid (wr.heap[b]?=some (.stringIter s pos))/\s.size<=pos+g1/\Hid (Zf w wr)/\Hid (validD (s.data.toList.drop pos)=true)/\Hid ((Xl (s.data.toList.drop pos)).all (λc=>Lv (Xi c))=X))
 case atStart=>exact⟨0,by rw[HB.out];exact World.iter_heap w s 0,Om,(Fl _).alloc _,HV,ab.symm⟩
 case round =>
  obtain⟨pos,HI,hg,HX,ae,HA⟩:=hrel;by_cases hp:pos<s.size
  ·have M:=λty=>Pm (P:=Tryz.prog) HI.out ty hp
   obtain⟨c,e1,e2,e3⟩:=Zkl HV.out hp ae.out;have Z:=Lib.width_pos s pos;have L:=Lib.rune_le s pos;have XN:Zf w (Wi wr b s (pos+(Utf8.decode s pos).2)):=HX.out.trans (Tn wr b s _) (λj hj e=>by have:=HB.out;omega);have IN:=Pu (pos+(Utf8.decode s pos).2) HI.out;generalize Utf8.decode s pos=dp at M e1 e2 e3 Z L XN IN;obtain⟨r,wd⟩:=dp;simp only at M e1 e2 e3 Z L XN IN;have I:=Hd (Ai1 e1 (Ai1 e2 (Ai1 e3 (Ai1 XN IN))));clear e1 e2 e3 XN IN;have C1:=λW=>Jd r W L
   generalize hq:Lv r=q at C1;have HQ:=Hd hq;clear hq;cases q
   ·go_wp2_with (go_at_call 267;refine (C1 _).mono ?_;rintro e W3 ⟨rfl,h⟩;have G:=Hd h;clear h)
    have eK:V=false:=by
     have:=HA.out;rw[I.1,List.all_cons,I.2.1,HQ.out,Bool.false_and]at this;rw[aa.out,HK.out,<- this,Bool.and_false]
    have J:=Hd eK;clear eK;exact bodyPost_ret (results_tmp rfl _ _ _) rfl ⟨by rw[J.out];rfl,I.2.2.2.1.then G.out⟩
   ·go_wp2_with (go_at_call 267;refine (C1 _).mono ?_;rintro e W3 ⟨rfl,h⟩;have G:=Hd h;clear h)
    go_roundg (s.size-(pos+wd))
    case measure=>omega
    case rel=>exact⟨pos+wd,G.out.heap I.2.2.2.2 id,Om,I.2.2.2.1.then G.out,I.2.2.1,by
     have:=HA.out;rw[I.1,List.all_cons,I.2.1,HQ.out,Bool.true_and]at this
     exact this⟩
  ·have M:=λty=>V4 (P:=Tryz.prog) HI.out ty hp
   have ac:s.data.toList.length=s.size:=by rw[Array.length_toList];rfl
   have eA:X=true:=by
    have:=HA.out;rw[List.drop_eq_nil_of_le Om]at this;exact this.symm
   have J:Hid (V = !s.data.toList.isEmpty):=by
    show V=_;rw[aa.out,HK.out,eA,Bool.and_true]
   clear eA ac;by_cases Y:s.data.toList=[]
   ·have ad:(s.toList==[])=true:=by rw[ByteArray.toList_eq];simp[Y]
    have J:Hid (V=false):=by show V=false;rw[J.out,Y];rfl
    clear Y;go_wp2_with fail
    first|go_ret|go_ret2
    exact⟨by rw[J.out];rfl,HX⟩
   ·have ad:(s.toList==[])=false:=by rw[ByteArray.toList_eq];simpa using Y
    have J:Hid (V=true):=by
     show V=true;rw[J.out]
     cases hq:s.data.toList.isEmpty with
     | true=>exact absurd (List.isEmpty_iff.1 hq) Y
     | false=>rfl
    clear Y;go_wp2_with fail
    first|go_ret|go_ret2
    exact⟨by rw[J.out];rfl,HX⟩
theorem Zb9(nb:Nat)(s:ByteArray)(w:World)(I:w.cell? ⟨nb,8,none⟩=some (.string s))(hs:s.size<=1000000)(hv:Lib.validD s.data.toList=true) :
  Calls Tryz.prog 199 #[.pointer (some ⟨nb,0,none⟩)] w λe w'=>e=.returned (.int .i64 (extra s))/\Zf w w':=by
 obtain⟨E,hE⟩:∃ E,E=extra s:=⟨_,rfl⟩;rw[<- hE];obtain⟨q,Z⟩:∃ q,q=Lib.runeCount s:=⟨_,rfl⟩;have ab:q<=1000000:=by have:=Lib.runeCount_le s;omega
 have U:=λW=>Sv s W Om
 rw[<- Z]at U;have M:=λW=>Gc s W hs hv
 have K:E=if 2<q/\Fm s=true then ((q-2:Nat):Int)*3000 else if 7<q then ((q-7:Nat):Int)*1700 else 0:=by rw[hE,Z];rfl
 generalize Fm s=kj at M K;have H8:=Hd I;have J:=Hd K;clear hE K Z hv I;have I:=H8.out;by_cases h2:2<q
 ·have aa:(2:Int)<(q:Int):=Om
  cases kj
  ·have J:Hid (E=if 7<q then ((q-7:Nat):Int)*1700 else 0):=by
    show E=_;rw[J.out,if_neg (by simp)]
   by_cases V:7<q
   ·have L:(7:Int)<(q:Int):=Om;go_enter Tryz.func199,Tryz.ntmps199
    go_wp2_with (first
     | (go_at_call 162;refine (U _).mono ?_;rintro e Y ⟨rfl,h⟩;have I:=h.cell I id;have A:=Hd h;clear h)
     | (go_at_call 239;refine (M _).mono ?_;rintro e X ⟨rfl,z⟩;have G:=Hd z;clear z)
     | fail)
    have e:E=((q:Int)-7)*1700:=(by rw[J.out,if_pos V,(Om:((q-7:Nat):Int)=(q:Int)-7)]);exact bodyPost_ret (results_tmp rfl _ _ _) rfl ⟨by rw[e];rfl,A.out.then G.out⟩
   ·have L:¬ (7:Int)<(q:Int):=Om;go_enter Tryz.func199,Tryz.ntmps199
    go_wp2_with (first
     | (go_at_call 162;refine (U _).mono ?_;rintro e Y ⟨rfl,h⟩;have I:=h.cell I id;have A:=Hd h;clear h)
     | (go_at_call 239;refine (M _).mono ?_;rintro e X ⟨rfl,z⟩;have G:=Hd z;clear z)
     | fail)
    have e:E=0:=(by rw[J.out,if_neg V]);exact bodyPost_ret (results_tmp rfl _ _ _) rfl ⟨by rw[e];rfl,A.out.then G.out⟩
  ·skip;go_enter Tryz.func199,Tryz.ntmps199
   go_wp2_with (first
    | (go_at_call 162;refine (U _).mono ?_;rintro e Y ⟨rfl,h⟩;have I:=h.cell I id;have A:=Hd h;clear h)
    | (go_at_call 239;refine (M _).mono ?_;rintro e X ⟨rfl,z⟩;have G:=Hd z;clear z)
    | fail)
   have e:E=((q:Int)-2)*3000:=(by rw[J.out,if_pos ⟨h2,by trivial⟩,(Om:((q-2:Nat):Int)=(q:Int)-2)]);exact bodyPost_ret (results_tmp rfl _ _ _) rfl ⟨by rw[e];rfl,A.out.then G.out⟩
 ·have aa:¬ (2:Int)<(q:Int):=Om
  have J:Hid (E=if 7<q then ((q-7:Nat):Int)*1700 else 0):=by
   show E=_;rw[J.out,if_neg (by rintro⟨a,_⟩;exact h2 a)]
  have L:¬ (7:Int)<(q:Int):=Om
  have V:¬ 7<q:=Om
  go_enter Tryz.func199,Tryz.ntmps199
  go_wp2_with (first
   | (go_at_call 162;refine (U _).mono ?_;rintro e Y ⟨rfl,h⟩;have I:=h.cell I id;have A:=Hd h;clear h)
   | (go_at_call 239;refine (M _).mono ?_;rintro e X ⟨rfl,z⟩;have G:=Hd z;clear z)
   | fail)
  have e:E=0:=by rw[J.out,if_neg V]
  exact bodyPost_ret (results_tmp rfl _ _ _) rfl ⟨by rw[e];rfl,A.out⟩
end
end Go.Proofs.YtlfoalomaofejaaGreatDoor
