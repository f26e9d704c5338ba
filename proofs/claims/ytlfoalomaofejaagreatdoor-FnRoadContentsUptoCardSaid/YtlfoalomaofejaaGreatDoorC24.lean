/- Plain facts of a text's charac -/
import Derived.Test.YtlfoalomaofejaaGreatDoorC17
import Derived.Test.YtlfoalomaofejaaGreatDoorC19
set_option linter.all false
set_option maxRecDepth 100000
set_option maxHeartbeats 4000000
section
namespace LT
open Go Go.Lib UC
def Rd(s:ByteArray):Prop:=∀ c∈Zd s,Good c/\Xa c≠65533
theorem So(s:ByteArray):(Zd s).flatten=s.data.toList:=Ul _
theorem Sm(s:ByteArray):runeCount s=(Zd s).length:=count_chunk s
theorem Mf(ds:List (List UInt8))(k:Nat)(hk:k<ds.length):bp ds (k+1)=bp ds k+ds[k].length:=by
 unfold bp;rw[List.take_succ_eq_append_getElem hk,List.flatten_append,List.length_append,List.flatten_singleton]
theorem Ln(s:ByteArray):bp (Zd s) (Zd s).length=s.size:=by
 unfold bp;rw[List.take_length,So,Array.length_toList];rfl
theorem Zji(ds:List (List UInt8))(a n:Nat):bp ds (a+n)=bp ds a+((ds.drop a).take n).flatten.length:=by
 unfold bp;rw[List.take_add,List.flatten_append,List.length_append]
theorem Mh(ds:List (List UInt8)){a b:Nat}(h:a<=b):bp ds a<=bp ds b:=by
 obtain⟨n,rfl⟩:=Nat.exists_eq_add_of_le h;rw[Zji];omega
theorem Mi(s:ByteArray)(k:Nat):bp (Zd s) k<=s.size:=by
 rcases Nat.lt_or_ge (Zd s).length k with h|h
 ·have:bp (Zd s) k=bp (Zd s) (Zd s).length:=by
   unfold bp;rw[List.take_of_length_le Om,List.take_length]
  rw[this,Ln];omega
 ·rw[<- Ln s];exact Mh _ h
theorem Dr(ds:List (List UInt8))(k:Nat):ds.flatten.drop (bp ds k)=(ds.drop k).flatten:=by
 have:ds.flatten=(ds.take k).flatten++(ds.drop k).flatten:=by rw[<- List.flatten_append,List.take_append_drop]
 rw[this];exact List.drop_left' rfl
theorem Zkf(ds:List (List UInt8))(k:Nat):ds.flatten.take (bp ds k)=(ds.take k).flatten:=by
 have:ds.flatten=(ds.take k).flatten++(ds.drop k).flatten:=by rw[<- List.flatten_append,List.take_append_drop]
 rw[this];exact List.take_left' rfl
theorem ext_list(s:ByteArray)(a b:Nat):(s.extract a b).data.toList=(s.data.toList.take b).drop a:=by
 rw[ByteArray.data_extract,Array.toList_extract];simp[List.drop_take]
theorem Dp(s:ByteArray)(a b:Nat)(h:a<=b):(s.extract (bp (Zd s) a) (bp (Zd s) b)).data.toList=((Zd s).drop a |>.take (b-a)).flatten:=by
 rw[ext_list,<- So s,Zkf]
 have e:(Zd s).take b=(Zd s).take a++((Zd s).drop a).take (b-a):=by
  conv=>lhs;rw[(Om:b=a+(b-a))]
  rw[List.take_add]
 rw[e,List.flatten_append];exact List.drop_left' rfl
theorem Il{s:ByteArray}(hs:Rd s)(a b:Nat)(h:a<=b)(hb:b<=(Zd s).length):runeCount (s.extract (bp (Zd s) a) (bp (Zd s) b))=b-a:=by
 rw[count_chunk,Dp s a b h,Oe _ (λc hc=>(hs c (List.mem_of_mem_drop (List.mem_of_mem_take hc))).1),List.length_take,List.length_drop];omega
theorem Et(s:ByteArray)(k:Nat):(s.extract (bp (Zd s) k) s.size).data.toList=((Zd s).drop k).flatten:=by
 rw[ext_list,<- Dr,So,List.take_of_length_le];rw[Array.length_toList];exact Nl _
theorem Zc0{s:ByteArray}(hs:Rd s)(k:Nat)(hk:k<(Zd s).length):Utf8.decode s (bp (Zd s) k)=(Xa (Zd s)[k],(Zd s)[k].length):=by
 have hg:=(hs _ (List.getElem_mem hk)).1;rw[<- decodeL_drop,<- So s,Dr,List.drop_eq_getElem_cons hk,List.flatten_cons,Ti hg];exact Prod.ext rfl hg.2.1
theorem Zja{s:ByteArray}(hs:Rd s)(k:Nat)(hk:k<(Zd s).length):decodeL (s.extract (bp (Zd s) k) s.size).data.toList=(Xa (Zd s)[k],(Zd s)[k].length):=by
 have hg:=(hs _ (List.getElem_mem hk)).1;rw[Et,List.drop_eq_getElem_cons hk,List.flatten_cons,Ti hg];exact Prod.ext rfl hg.2.1
theorem Zlb{s:ByteArray}(hs:Rd s)(a b:Nat)(h:a<b)(hb:b<=(Zd s).length):decodeLastL (s.extract (bp (Zd s) a) (bp (Zd s) b)).data.toList=(Xa ((Zd s)[b-1]' Om),((Zd s)[b-1]' Om).length):=by
 have hg:=(hs _ (List.getElem_mem ((Om:b-1<(Zd s).length)))).1
 have e:((Zd s).drop a).take (b-a)=((Zd s).drop a).take (b-1-a)++[(Zd s)[b-1]' Om]:=by
  rw[(Om:b-a=b-1-a+1),List.take_succ_eq_append_getElem (by rw[List.length_drop];omega)];simp only[List.getElem_drop];congr 2;simp only[(Om:a+(b-1-a)=b-1)]
 rw[Dp s a b Om,e,List.flatten_append,List.flatten_singleton,Gm hg];exact Prod.ext rfl hg.2.1
theorem K8{s p:ByteArray}(hs:Rd s)(k:Nat)(hk:k<=(Zd s).length)(hv:validD p.data.toList=true)(hp:p.data.toList <+: (s.extract (bp (Zd s) k) s.size).data.toList) :
  bp (Zd s) k+p.size=bp (Zd s) (k+(Xc p.data.toList).length)/\k+(Xc p.data.toList).length<=(Zd s).length/\s.extract (bp (Zd s) k) (bp (Zd s) k+p.size)=p:=by
 rw[Et]at hp;have h1:=Md (Xc p.data.toList) ((Zd s).drop k) (valid_good hv) (λc hc=>(hs c (List.mem_of_mem_drop hc)).1) (by rw[Ul];exact hp);have hl:=h1.length_le;rw[List.length_drop]at hl;have e:((Zd s).drop k).take (Xc p.data.toList).length=Xc p.data.toList:=(List.prefix_iff_eq_take.1 h1).symm;have hsz:p.size=(Xc p.data.toList).flatten.length:=by rw[Ul,Array.length_toList];rfl
 have e2:bp (Zd s) k+p.size=bp (Zd s) (k+(Xc p.data.toList).length):=by rw[Zji,e,hsz]
 refine⟨e2,Om,?_⟩
 have e3:(s.extract (bp (Zd s) k) (bp (Zd s) k+p.size)).data.toList=p.data.toList:=by
  rw[e2,Dp s _ _ Om,(Om:k+(Xc p.data.toList).length-k=(Xc p.data.toList).length),e,Ul]
 exact ByteArray.ext (Array.toList_inj.1 e3)
end LT
end
namespace Go.Proofs.YtlfoalomaofejaaGreatDoor
section
open Go.RowKit Go.Shelf LT
theorem Bv(r:Int)(w:World):Calls Tryz.prog 195 #[.int .i32 r] w λe w'=>e=.returned (.int .i64 (Lib.runeLen r))/\w'=w:=Any.utf8_RuneLen laysRl r w
theorem Za6(s:ByteArray)(w:World)(hs:s.size<=9223372036854775807)(hT:U8 w):Calls Tryz.prog 197 #[.string s] w λe w'=>e=.returned (.tuple #[.int .i32 (Lib.decodeLastL s.data.toList).1,.int .i64 (Lib.decodeLastL s.data.toList).2])/\Zf w w' :=
 (Any.utf8_DecodeLastRuneInString laysLast s w hs hT).mono λ_ _ h=>⟨h.1,Fr.of_below h.2⟩
theorem Zlq(s:ByteArray)(w:World)(hT:U8 w):Calls Tryz.prog 196 #[.string s] w λe w'=>e=.returned (.tuple #[.int .i32 (Lib.decodeGo s).1,.int .i64 (Lib.decodeGo s).2])/\Zf w w' :=
 (Any.utf8_DecodeRuneInString laysDec s w hT).mono λ_ _ h=>⟨h.1,Fr.of_below h.2⟩
theorem Zb5{s:ByteArray}(hs:Rd s)(k:Nat)(hk:k<(Zd s).length):Lib.runeLen (Xa (Zd s)[k]:Int)=((Zd s)[k].length:Int):=by
 have h:=hs _ (List.getElem_mem hk);have:=Lib.runeLen_decode (Zd s)[k] h.2;rw[h.1.2.1]at this;exact this
theorem Zjc{s:ByteArray}(hs:Rd s)(k:Nat)(hk:k<(Zd s).length):Lib.decodeGo (s.extract (bp (Zd s) k) s.size)=(Xa (Zd s)[k],(Zd s)[k].length):=by
 have h1:=Zja hs k hk;have h2:Lib.decodeL (s.extract (bp (Zd s) k) s.size).data.toList=Utf8.decode (s.extract (bp (Zd s) k) s.size) 0:=by rw[<- Lib.decodeL_drop,List.drop_zero]
 have hne:¬ (s.extract (bp (Zd s) k) s.size).size=0:=by
  intro e;have hl:=congrArg List.length (Et s k);rw[Array.length_toList,List.drop_eq_getElem_cons hk,List.flatten_cons,List.length_append]at hl;have:=List.length_pos_iff.2 (hs _ (List.getElem_mem hk)).1.1;have e2:(s.extract (bp (Zd s) k) s.size).data.size=0:=e;omega
 unfold Lib.decodeGo;rw[if_neg hne,<- h2,h1]
end
end Go.Proofs.YtlfoalomaofejaaGreatDoor
section
namespace LT
open Go Go.Lib UC
theorem Ob(D:Dk)(mode:Int)(ns:List Nd)(t n:Nat):∀ (l:List Nat) (st:St) (f:Bool),Vc D mode ns t st f (l++[n])=relax D mode ns t (Vc D mode ns t st f l) (f&&l.isEmpty) n
 | [],st,f=>by cases f<;>rfl
 | a::l,st,f=>by
  show Vc D mode ns t (relax D mode ns t st f a) false (l++[n])=_;rw[Ob D mode ns t n l];cases f<;>rfl
def rel(D:Dk)(mode:Int)(ns:List Nd)(t:Nat)(st:St)(l:List Nat)(j:Nat):St:=Vc D mode ns t st true (l.take j)
theorem Zhp(D:Dk)(mode:Int)(ns:List Nd)(t:Nat)(st:St)(l:List Nat):rel D mode ns t st l 0=st:=rfl
theorem Zhq(D:Dk)(mode:Int)(ns:List Nd)(t:Nat)(st:St)(l:List Nat)(j:Nat)(hj:j<l.length):rel D mode ns t st l (j+1)=relax D mode ns t (rel D mode ns t st l j) (decide (j=0)) l[j]:=by
 unfold rel;rw[List.take_succ_eq_append_getElem hj,Ob];congr 1
 cases j with
 | zero=>rfl
 | succ j =>
  have:(List.take (j+1) l).isEmpty=false:=by
   cases l with
   | nil=>simp at hj
   | cons a l=>rfl
  rw[this];simp
theorem Zks(D:Dk)(mode:Int)(ns:List Nd)(t:Nat)(st:St)(l:List Nat):rel D mode ns t st l l.length=Vc D mode ns t st true l:=by
 unfold rel;rw[List.take_length]
def Dj(D:Dk)(mode:Int)(ns:List Nd)(st:St)(p j:Nat):St:=((row ns p).take j).foldl (Wg D mode ns) st
theorem Zf6(D:Dk)(mode:Int)(ns:List Nd)(st:St)(p j:Nat)(hj:j<(row ns p).length):Dj D mode ns st p (j+1)=Wg D mode ns (Dj D mode ns st p j) (row ns p)[j]:=by
 unfold Dj;rw[List.take_succ_eq_append_getElem hj,List.foldl_append];rfl
theorem Zit(D:Dk)(mode:Int)(ns:List Nd)(st:St)(p:Nat):Dj D mode ns st p (row ns p).length=Di D mode ns st p:=by
 unfold Dj Di;rw[List.take_length]
def Xk(st:St):Prop:=∀ k,-2147483648<=st.cost k/\st.cost k<=2147483647
theorem wrap32_in(x:Int):-2147483648<=wrap32 x/\wrap32 x<=2147483647:=by
 unfold wrap32;rw[IntKind.wrap_i32];omega
theorem Ng{β:Type}(f:Nat->β)(k:Nat)(v:β):P7 f k v k=v:=by simp[P7]
theorem Rp{β:Type}(f:Nat->β){k x:Nat}(v:β)(h:x≠k):P7 f k v x=f x:=by simp[P7,h]
theorem Xk.up{st:St}(h:Xk st)(t:Nat)(c:Int)(pv:Nat->Option Nat)(hc:-2147483648<=c/\c<=2147483647):Xk ⟨P7 st.cost t c,pv⟩:=λk=>by
 show -2147483648<=P7 st.cost t c k/\P7 st.cost t c k<=2147483647;by_cases e:k=t
 ·rw[e,Ng];exact hc
 ·rw[Rp _ _ e];exact h k
theorem Xk.relax{D:Dk}{mode:Int}{ns:List Nd}{t n:Nat}{st:St}{f:Bool}(h:Xk st):Xk (relax D mode ns t st f n):=by
 unfold LT.relax
 split
 ·exact h.up t _ _ (wrap32_in _)
 ·exact h
theorem Vo{ns:List Nd}{p m:Nat}(h:m∈row ns p):m<ns.length/\(ns.getD m default).fin=p:=by
 unfold row at h;obtain⟨h1,h2⟩:=List.mem_filter.1 h;exact⟨List.mem_range.1 h1,by simpa using h2⟩
theorem Zcs(D:Dk)(mode:Int)(ns:List Nd)(p:Nat)(hp:1<=p):Vs D mode ns (p+1)=Di D mode ns (Vs D mode ns p) p:=by
 show (if p=0 then _ else _)=_;rw[if_neg Om]
end LT
namespace Go.Proofs.YtlfoalomaofejaaGreatDoor
open Go.RowKit LT
variable{w:World}{g R:Nat}{vs:Nat->Value}{ns:List Nd}{nb:Nat->Nat}{cost:Nat->Int}{prev:Nat->Option Nat}
theorem Xf{w:World}{b:Nat}{cs:Array Value}{T:TypeId}(h:w.heap[b]?=some (.cells cs T (0,0)))(j:Nat)(u:Value):(w.setCell ⟨b,j,none⟩ u).heap[b]?=some (.cells (cs.setIfInBounds j u) T (0,0)):=by
 simp[World.setCell,Array.getElem?_modify,h]
theorem Ym.setCost(h:Ym w g R vs ns nb cost prev)(t:Nat)(ht:t<ns.length)(c:Int):Ym (w.setCell ⟨nb t,4,none⟩ (.int .i32 c)) g R vs ns nb (P7 cost t c) prev:=by
 have F:Fr (λj=>j=nb t) w (w.setCell ⟨nb t,4,none⟩ (.int .i32 c)):=(Fr.refl (λj=>j=nb t) w).setCell ⟨nb t,4,none⟩ _ (λ_=>rfl);have nt:=h.noff t ht;refine⟨λp hp=>⟨F.cell (h.cell p hp).1 (λe=>nt.1 e.symm),(F.frozen (h.cell p hp).1 (λe=>nt.1 e.symm)).trans (h.cell p hp).2⟩,λp hp=>Zs (h.row p hp) F (λj e q=>nt.2 p hp (by rw[e,q])),h.apart,h.offg,λm hm=>?_,h.noff,h.inj⟩;by_cases e:m=t
 ·subst e;rw[Ng];exact Xf (h.node m hm) 4 _
 ·rw[Rp _ _ e];exact F.heap (h.node m hm) (λq=>e (h.inj m t hm ht q))
theorem Ym.setPrev(h:Ym w g R vs ns nb cost prev)(t:Nat)(ht:t<ns.length)(n:Nat):Ym (w.setCell ⟨nb t,9,none⟩ (.pointer (some ⟨nb n,0,none⟩))) g R vs ns nb cost (P7 prev t (some n)):=by
 have F:Fr (λj=>j=nb t) w (w.setCell ⟨nb t,9,none⟩ (.pointer (some ⟨nb n,0,none⟩))):=(Fr.refl (λj=>j=nb t) w).setCell ⟨nb t,9,none⟩ _ (λ_=>rfl);have nt:=h.noff t ht;refine⟨λp hp=>⟨F.cell (h.cell p hp).1 (λe=>nt.1 e.symm),(F.frozen (h.cell p hp).1 (λe=>nt.1 e.symm)).trans (h.cell p hp).2⟩,λp hp=>Zs (h.row p hp) F (λj e q=>nt.2 p hp (by rw[e,q])),h.apart,h.offg,λm hm=>?_,h.noff,h.inj⟩;by_cases e:m=t
 ·subst e;rw[Ng];exact Xf (h.node m hm) 9 _
 ·rw[Rp _ _ e];exact F.heap (h.node m hm) (λq=>e (h.inj m t hm ht q))
theorem Ym.getElem(h:Ym w g R vs ns nb cost prev)(p:Nat)(hp:p<R)(i:Nat)(hi:i<(LT.row ns p).length):∃ gp c,vs p=.slice (some ⟨gp,0,none⟩) (LT.row ns p).length c/\w.cell? ⟨gp,i,none⟩=some (.pointer (some ⟨nb (LT.row ns p)[i],0,none⟩)):=by
 have hr:=h.row p hp;rcases id hr.2 with ⟨_,e⟩|⟨gp,cap,cur,e,_⟩
 ·rw[e]at hi;simp at hi
 ·refine⟨gp,cap,e,?_⟩;have:=hr.cells (g:=gp) (by rw[e];rfl) i (.pointer (some ⟨nb (LT.row ns p)[i],0,none⟩)) (by simp[hi]);rw[Addr.add_lit,Nat.zero_add]at this;exact this
end Go.Proofs.YtlfoalomaofejaaGreatDoor
end
section
namespace UC
open Go Go.Lib
theorem Zmt(r:Nat)(hv:r<55296\/(57343<r/\r<=1114111)):(Utf8.encode (r:Int)).data.toList=encodeRune (r:Int):=by
 have h1:Utf8.valid (r:Int)=true:=by
  simp only[Utf8.valid,Bool.or_eq_true,Bool.and_eq_true,decide_eq_true_eq];omega
 have h2:((r:Int)).toNat=r:=Om
 unfold Utf8.encode encodeRune;simp only[h1,if_true,h2];have b:∀ n:Nat,((n:Int)).toNat.toUInt8=UInt8.ofNat n:=λn=>by rw[(Om:((n:Int)).toNat=n)]
 by_cases c1:r<128
 ·rw[if_pos c1,encodeRuneZ_one Om Om];simp only[List.map_cons,List.map_nil,b]
 ·rw[if_neg c1];by_cases c2:r<2048
  ·rw[if_pos c2,encodeRuneZ_two Om Om];simp only[List.map_cons,List.map_nil,(Om:(192:Int)+(r:Int) / 64=((192+r / 64:Nat):Int)),(Om:(128:Int)+(r:Int) % 64=((128+r % 64:Nat):Int)),b]
  ·rw[if_neg c2];by_cases c3:r<65536
   ·rw[if_pos c3,encodeRuneZ_three Om];simp only[List.map_cons,List.map_nil,(Om:(224:Int)+(r:Int) / 4096=((224+r / 4096:Nat):Int)),(Om:(128:Int)+(r:Int) / 64 % 64=((128+r / 64 % 64:Nat):Int)),(Om:(128:Int)+(r:Int) % 64=((128+r % 64:Nat):Int)),b]
   ·rw[if_neg c3,encodeRuneZ_four Om Om];simp only[List.map_cons,List.map_nil,(Om:(240:Int)+(r:Int) / 262144=((240+r / 262144:Nat):Int)),(Om:(128:Int)+(r:Int) / 4096 % 64=((128+r / 4096 % 64:Nat):Int)),(Om:(128:Int)+(r:Int) / 64 % 64=((128+r / 64 % 64:Nat):Int)),(Om:(128:Int)+(r:Int) % 64=((128+r % 64:Nat):Int)),b]
theorem Zf5{c:List UInt8}(h:Good c):(decodeL c).1<55296\/(57343<(decodeL c).1/\(decodeL c).1<=1114111):=by
 have hl:0<c.length:=List.length_pos_iff.2 h.1;have h3:=h.2.2;rw[decodeL_N]at h3⊢;rcases decodeN_shape c.length (c.getD 0 0).toNat (c.getD 1 0).toNat (c.getD 2 0).toNat (c.getD 3 0).toNat with ⟨c,e⟩|⟨c1,c2,c3,cv,e⟩|⟨c1,c2,c3,c4,cv,cs,e⟩|⟨c1,c2,c3,c4,c5,cv,cw,e⟩|e
 ·rw[e];dsimp only;omega
 ·rw[e];dsimp only;omega
 ·rw[e];dsimp only;omega
 ·rw[e];dsimp only;omega
 ·rw[e]at h3;exact absurd ⟨rfl,rfl⟩ h3
theorem enc_good{c:List UInt8}(h:Good c):Utf8.encode ((decodeL c).1:Int)=⟨c.toArray⟩:=by
 have e:(Utf8.encode ((decodeL c).1:Int)).data.toList=c:=by
  rw[Zmt _ (Zf5 h),encode_decode c h.1 h.2.2,h.2.1,List.take_length]
 have:(Utf8.encode ((decodeL c).1:Int)).data=c.toArray:=by
  apply Array.toList_inj.1;rw[e]
 cases hq:Utf8.encode ((decodeL c).1:Int) with
 | mk d=>rw[hq]at this;simp only at this;rw[this]
end UC
namespace LT
open Go Go.Lib UC
def Wn(ns:List Nd)(st:St):Prop:=∀ t n,st.prev t=some n->n∈row ns (ns.getD t default).start
theorem Wn.relax{D:Dk}{mode:Int}{ns:List Nd}{t n:Nat}{st:St}{f:Bool}(h:Wn ns st)(hn:n∈row ns (ns.getD t default).start):Wn ns (relax D mode ns t st f n):=by
 unfold LT.relax
 split
 ·intro t' m hm;by_cases e:t'=t
  ·subst e;have hm':P7 st.prev t' (some n) t'=some m:=hm;rw[Ng]at hm';injection hm' with hm'
   rw[<- hm'];exact hn
  ·have hm':P7 st.prev t (some n) t'=some m:=hm;rw[Rp _ _ e]at hm';exact h t' m hm'
 ·exact h
theorem Wn.all{D:Dk}{mode:Int}{ns:List Nd}{t:Nat}:∀ (l:List Nat) (st:St) (f:Bool),Wn ns st->(∀ n∈l,n∈row ns (ns.getD t default).start)->Wn ns (Vc D mode ns t st f l)
 | [],_,_,h,_=>h
 | a::l,st,f,h,hl=>Wn.all l _ false (h.relax (hl a (by simp))) (λn hn=>hl n (by simp[hn]))
theorem Wn.node{D:Dk}{mode:Int}{ns:List Nd}{st:St}(h:Wn ns st)(t:Nat):Wn ns (Wg D mode ns st t):=by
 unfold Wg
 split
 ·exact h
 ·exact Wn.all _ _ _ h (λn hn=>hn)
theorem Wn.row{D:Dk}{mode:Int}{ns:List Nd}:∀ (l:List Nat) (st:St),Wn ns st->Wn ns (l.foldl (Wg D mode ns) st)
 | [],_,h=>h
 | a::l,_,h=>Wn.row l _ (h.node a)
theorem Gb(D:Dk)(mode:Int)(ns:List Nd):∀ p,Wn ns (Vs D mode ns p)
 | 0=>λt n h=>by cases h
 | p+1=>by
  show Wn ns (if p=0 then _ else _)
  split
  ·exact λt n h=>by cases h
  ·exact Wn.row _ _ (Gb D mode ns p)
def Zgs(ns:List Nd)(prev:Nat->Option Nat):Prop:=∀ t n,prev t=some n->n<ns.length/\(ns.getD n default).fin<(ns.getD t default).fin
def Xh(ns:List Nd)(st:St):Prop:=∀ t n,st.prev t=some n->t<ns.length/\1<=(ns.getD t default).fin
theorem Xh.relax{D:Dk}{mode:Int}{ns:List Nd}{t n:Nat}{st:St}{f:Bool}(h:Xh ns st)(ht:t<ns.length/\1<=(ns.getD t default).fin):Xh ns (relax D mode ns t st f n):=by
 unfold LT.relax
 split
 ·intro t' m hm;by_cases e:t'=t
  ·subst e;exact ht
  ·have hm':P7 st.prev t (some n) t'=some m:=hm;rw[Rp _ _ e]at hm';exact h t' m hm'
 ·exact h
theorem Xh.all{D:Dk}{mode:Int}{ns:List Nd}{t:Nat}(ht:t<ns.length/\1<=(ns.getD t default).fin):∀ (l:List Nat) (st:St) (f:Bool),Xh ns st->Xh ns (Vc D mode ns t st f l)
 | [],_,_,h=>h
 | _::l,_,_,h=>Xh.all ht l _ false (h.relax ht)
theorem Xh.node{D:Dk}{mode:Int}{ns:List Nd}{st:St}(h:Xh ns st){t:Nat}(ht:t<ns.length/\1<=(ns.getD t default).fin):Xh ns (Wg D mode ns st t):=by
 unfold Wg
 split
 ·exact h
 ·exact Xh.all ht _ _ _ h
theorem Xh.row{D:Dk}{mode:Int}{ns:List Nd}{p:Nat}(hp:1<=p):∀ (l:List Nat) (st:St),(∀ t∈l,t∈LT.row ns p)->Xh ns st->Xh ns (l.foldl (Wg D mode ns) st)
 | [],_,_,h=>h
 | a::l,_,hl,h=>by
  obtain⟨h1,h2⟩:=Vo (hl a (by simp));exact Xh.row hp l _ (λt ht=>hl t (by simp[ht])) (h.node ⟨h1,Om⟩)
theorem Jx(D:Dk)(mode:Int)(ns:List Nd):∀ p,Xh ns (Vs D mode ns p)
 | 0=>λt n h=>by cases h
 | p+1=>by
  show Xh ns (if p=0 then _ else _)
  split
  ·exact λt n h=>by cases h
  next hp=>exact Xh.row ((Om:1<=p)) _ _ (λ_ h=>h) (Jx D mode ns p)
theorem Ma(D:Dk)(mode:Int)(ns:List Nd)(hns:∀ x∈ns,1<=x.fin->x.start<x.fin)(p:Nat):Zgs ns (Vs D mode ns p).prev:=by
 intro t n h;obtain⟨h1,h2⟩:=Jx D mode ns p t n h;obtain⟨h3,h4⟩:=Vo (Gb D mode ns p t n h);refine⟨h3,?_⟩;rw[h4];have e:ns.getD t default=ns[t]:=by rw[List.getD_eq_getElem?_getD,Ge h1];rfl
 rw[e]at h2⊢;exact hns _ (List.getElem_mem h1) h2
def way(ns:List Nd)(prev:Nat->Option Nat)(t:Nat):List Nat:=back prev ((ns.getD t default).fin+1) t
theorem Lp{ns:List Nd}{prev:Nat->Option Nat}(h:Zgs ns prev):∀ (f t:Nat),(ns.getD t default).fin+1<=f->back prev f t=way ns prev t
 | 0,t,hf=>by omega
 | f+1,t,hf=>by
  unfold way back
  cases e:prev t with
  | none=>rfl
  | some n =>
   have:=(h t n e).2;simp only;rw[Lp h f n Om,Lp h (ns.getD t default).fin n Om]
 termination_by f=>f
def U6(ns:List Nd)(prev:Nat->Option Nat):Option Nat->List Nat
 | none=>[]
 | some t=>way ns prev t
theorem Zeq{ns:List Nd}{prev:Nat->Option Nat}(h:Zgs ns prev)(t:Nat):U6 ns prev (some t)=t::U6 ns prev (prev t):=by
 show back prev ((ns.getD t default).fin+1) t=_;show t::_=_;congr 1
 cases e:prev t with
 | none=>rfl
 | some n=>exact Lp h _ n (by have:=(h t n e).2;omega)
theorem Zdk{ns:List Nd}{prev:Nat->Option Nat}:∀ (f t:Nat),(back prev f t).length<=f
 | 0,_=>by simp[back]
 | f+1,t=>by
  unfold back
  cases e:prev t with
  | none=>simp
  | some n=>simp only[List.length_cons];have:=Zdk (ns:=ns) (prev:=prev) f n;omega
theorem Ps{ns:List Nd}{prev:Nat->Option Nat}(h:Zgs ns prev):∀ (f t:Nat),t<ns.length->∀ m∈back prev f t,m<ns.length
 | 0,_,_,m,hm=>by simp[back]at hm
 | f+1,t,ht,m,hm=>by
  unfold back at hm;rcases List.mem_cons.1 hm with rfl|hm
  ·exact ht
  ·cases e:prev t with
   | none=>rw[e]at hm;cases hm
   | some n=>rw[e]at hm;exact Ps h f n (h t n e).1 m hm
def Qy(x:Nd)(i:Nat):Nd:=⟨x.id,x.pos+bp (Zd x.surf) i,x.start+i,0,0,zeroM,⟨((Zd x.surf).getD i []).toArray⟩⟩
def Y8(mode:Int)(x:Nd):List Nd:=if mode≠3\/x.cls≠2 then [x] else ((List.range (Zd x.surf).length).map (Qy x)).reverse
theorem Zjb{s:ByteArray}(hs:∀ c∈Zd s,Good c)(k:Nat)(hk:k<(Zd s).length):Utf8.decode s (bp (Zd s) k)=(Xa (Zd s)[k],(Zd s)[k].length):=by
 have hg:=hs _ (List.getElem_mem hk);rw[<- decodeL_drop,<- So s,Dr,List.drop_eq_getElem_cons hk,List.flatten_cons,Ti hg];exact Prod.ext rfl hg.2.1
end LT
end
namespace Go.Proofs.YtlfoalomaofejaaGreatDoor
section
open Go.RowKit LT
def M7(l:List (Nat×Nat)):List Value:=l.flatMap λx=>[.int .i32 (x.1:Int),.int .i32 (x.2:Int)]
theorem J3:∀ (l:List (Nat×Nat)) (k:Nat) (hk:k<l.length),(M7 l)[k*2]?=some (.int .i32 (l[k].1:Int))/\(M7 l)[k*2+1]?=some (.int .i32 (l[k].2:Int))
 | m::l,0,_=>⟨rfl,rfl⟩
 | m::l,k+1,hk=>by
  have:=J3 l k (by simpa using hk);have e:M7 (m::l)=.int .i32 (m.1:Int) :: .int .i32 (m.2:Int)::M7 l:=rfl;rw[e,(Om:(k+1)*2=k*2+1+1),(Om:k*2+1+1+1=(k*2+1)+1+1)];simp only[List.getElem?_cons_succ,List.getElem_cons_succ];exact this
theorem Zfs{w:World}{g:Nat}{l:List (Nat×Nat)}{T:TypeId}(h:w.heap[g]?=some (.cells (M7 l).toArray T (0,0)))(i:Nat)(hi:i<l.length):w.cell? ⟨g,i*2,none⟩=some (.int .i32 (l[i].1:Int))/\w.cell? ⟨g,i*2+1,none⟩=some (.int .i32 (l[i].2:Int)):=by
 obtain⟨a,b⟩:=J3 l i hi;simp only[World.cell?,h];exact⟨by simpa using a,by simpa using b⟩
theorem Ic(w:World):Calls Tryz.prog 284 #[] w λe w'=>∃ g c,e=.returned (.slice (some ⟨g,0,none⟩) 21 c)/\Zf w w'/\∀ i (h:i<ideo.length),w'.cell? ⟨g,i*2,none⟩=some (.int .i32 (ideo[i].1:Int))/\w'.cell? ⟨g,i*2+1,none⟩=some (.int .i32 (ideo[i].2:Int)):=by
 go_enter Tryz.func284,Tryz.ntmps284
 go_wp2_with fail
 first|go_ret|go_ret2
 exact⟨_,_,rfl,(Fl _).alloc _,Zfs (l:=ideo) (alloc_at w (.cells (M7 ideo).toArray 422))⟩
theorem Zbi{α:Type}(p:α->Bool)(xs:List α)(k:Nat)(hk:k<xs.length)(h:(xs.take k).any p=false)(h1:p xs[k]=false):(xs.take (k+1)).any p=false:=by
 rw[List.take_succ_eq_append_getElem hk,List.any_append,h];simp[h1]
theorem Kl(r:Nat)(w:World)(hr:r<=1114111):Calls Tryz.prog 267 #[.int .i32 (r:Int)] w λe w'=>e=.returned (.bool (Le r))/\Zf w w':=by
 have hlen:ideo.length=21:=rfl;obtain⟨L,hL⟩:∃ L,L=ideo:=⟨_,rfl⟩
 have hall:∀ k (hk:k<L.length),L[k].1<=1114111/\L[k].2<=1114111:=by
  rw[hL];have:∀ x∈ideo,x.1<=1114111/\x.2<=1114111:=by decide
  exact λk hk=>this _ (List.getElem_mem hk)
 have C1:=Ic w;have hid:Le r=L.any λx=>decide (x.1<=r/\r<=x.2):=by rw[hL];rfl
 rw[<- hL]at C1 hlen;obtain⟨B,hB⟩:∃ B,B=L.any λx=>decide (x.1<=r/\r<=x.2):=⟨_,rfl⟩
 rw[hid,<- hB];have HB:=Hd hB;clear hid hL hB;have HL:=Hd hlen;go_enter Tryz.func267,Tryz.ntmps267
 go_wp2_with (go_at_call 284;refine C1.mono ?_;rintro e w1 ⟨g,c,rfl,hx,hg⟩;have HX1:=Hd hx;have HG:=Hd hg;clear C1 hx hg)
 go_loopg [7] 21 (λg1 v wr=>∃ k:Nat,v=.int .i64 k/\k<=21/\21<=k+g1/\Hid (Zf w1 wr)/\Hid ((L.take k).any (λx=>decide (x.1<=r/\r<=x.2))=false))
 case atStart=>exact⟨0,rfl,Om,Om,Fl _,rfl⟩
 case round =>
  obtain⟨k,rfl,hk,hg,HX,HA⟩:=hrel;by_cases hlt:k<21
  ·have hltz:(k:Int)<21:=Om;have hkL:k<L.length:=Om;obtain⟨e0,e1⟩:=HG.out k hkL;have e0:=HX.out.cell e0 id;have e1:=HX.out.cell e1 id;obtain⟨b0,b1⟩:=hall k hkL;generalize hx:L[k]=x at e0 e1 b0 b1;obtain⟨lo,hi⟩:=x;have HXX:=Hd hx;have LK:=Hd hkL;simp only at e0 e1 b0 b1;clear hx hall;by_cases h1:lo<=r
   ·have h1z:(lo:Int)<=(r:Int):=Om;by_cases h2:r<=hi
    ·have h2z:(r:Int)<=(hi:Int):=Om
     have e:(L.any λx=>decide (x.1<=r/\r<=x.2))=true:=by
      rw[List.any_eq_true];exact⟨_,List.getElem_mem LK.out,by rw[HXX.out];simp[h1,h2]⟩
     have E:Hid (B=true):=HB.out.trans e;clear e;go_wp2_with fail
     exact bodyPost_ret (results_tmp rfl _ _ _) rfl ⟨by rw[E.out];rfl,(HX1.out.then HX.out).alloc _⟩
    ·have h2z:¬ (r:Int)<=(hi:Int):=Om;go_wp2_with fail
     go_roundg (21-(k+1))
     case measure=>omega
     case rel=>exact⟨k+1,by go_num,Om,Om,HX.out.alloc _,Zbi _ _ k LK.out HA (by rw[HXX.out];simp;omega)⟩
   ·have h1z:¬ (lo:Int)<=(r:Int):=Om;go_wp2_with fail
    go_roundg (21-(k+1))
    case measure=>omega
    case rel=>exact⟨k+1,by go_num,Om,Om,HX.out.alloc _,Zbi _ _ k LK.out HA (by rw[HXX.out];simp;omega)⟩
  ·have hltz:¬ (k:Int)<21:=Om
   have e:(L.any λx=>decide (x.1<=r/\r<=x.2))=false:=by
    have:=HA.out;rwa[List.take_of_length_le Om]at this
   have E:Hid (B=false):=HB.out.trans e;clear e;go_wp2_with fail
   first|go_ret|go_ret2
   exact⟨by rw[E.out];rfl,HX1.out.then HX.out⟩
end
section
open Go.RowKit LT UC Go.Lib
theorem Zjf{s:ByteArray}(hv:validD s.data.toList=true){pos:Nat}(hp:pos<s.size)(hvp:validD (s.data.toList.drop pos)=true) :
  ∃ c,Xc (s.data.toList.drop pos)=c::Xc (s.data.toList.drop (pos+(Utf8.decode s pos).2))/\Xa c=(Utf8.decode s pos).1/\validD (s.data.toList.drop (pos+(Utf8.decode s pos).2))=true:=by
 have hsz:s.data.toList.length=s.size:=by rw[Array.length_toList];rfl
 have hne:s.data.toList.drop pos≠[]:=by
  intro e;have:=congrArg List.length e;rw[List.length_drop,hsz]at this;simp at this;omega
 have hg:=valid_good hvp;have hd:=decodeL_drop s pos;rw[validD_step _ hne]at hvp
 split at hvp
 ·cases hvp
 next hb =>
  refine⟨_,by rw[chunk_step _ hne,hd,List.drop_drop],?_,by rw[hd,List.drop_drop]at hvp;exact hvp⟩;have:=(Ry hne hb).2;rw[hd]at this;show (decodeL _).1=_;rw[this]
theorem Hf(s:ByteArray)(w:World)(hs:s.size<=1000000)(hv:validD s.data.toList=true):Calls Tryz.prog 239 #[.string s] w λe w'=>e=.returned (.bool (Gr s))/\Zf w w':=by
 obtain⟨ANS,hANS⟩:∃ A,A=(Zd s).all λc=>Le (Xa c):=⟨_,rfl⟩
 have hk:Gr s=(!s.data.toList.isEmpty&&ANS):=by rw[hANS];rfl
 have HANS:=Hd hANS;have HK:=Hd hk;have HV:=Hd hv;clear hANS hk hv;obtain⟨KS,hKS⟩:∃ K,K=Gr s:=⟨_,rfl⟩;rw[<- hKS];have HKS:=Hd hKS;clear hKS;go_enter Tryz.func239,Tryz.ntmps239
 go_wp2_with fail
 obtain⟨b,hb⟩:∃ b,b=w.heap.size:=⟨_,rfl⟩;rw[<- hb];have HB:=Hd hb;clear hb
 go_loopg [] s.size (λg1 wr=>∃ pos:Nat,Hid (wr.heap[b]?=some (.stringIter s pos))/\s.size<=pos+g1/\Hid (Zf w wr)/\Hid (validD (s.data.toList.drop pos)=true)/\Hid ((Xc (s.data.toList.drop pos)).all (λc=>Le (Xa c))=ANS))
 case atStart=>exact⟨0,by rw[HB.out];exact World.iter_heap w s 0,Om,(Fl _).alloc _,HV,HANS.symm⟩
 case round =>
  obtain⟨pos,HI,hg,HX,HVP,HA⟩:=hrel;by_cases hp:pos<s.size
  ·have hnx:=λty=>Pb (P:=Tryz.prog) HI.out ty hp
   obtain⟨c,e1,e2,e3⟩:=Zjf HV.out hp HVP.out;have hwd:=Lib.width_pos s pos;have hrl:=Lib.rune_le s pos;have XN:Zf w (Wc wr b s (pos+(Utf8.decode s pos).2)):=HX.out.trans (Th wr b s _) (λj hj e=>by have:=HB.out;omega);have IN:=Pi (pos+(Utf8.decode s pos).2) HI.out;generalize Utf8.decode s pos=dp at hnx e1 e2 e3 hwd hrl XN IN;obtain⟨r,wd⟩:=dp;simp only at hnx e1 e2 e3 hwd hrl XN IN;have HN:=Hd (Ai1 e1 (Ai1 e2 (Ai1 e3 (Ai1 XN IN))));clear e1 e2 e3 XN IN;have C1:=λW=>Kl r W hrl
   generalize hq:Le r=q at C1;have HQ:=Hd hq;clear hq;cases q
   ·go_wp2_with (go_at_call 267;refine (C1 _).mono ?_;rintro e W3 ⟨rfl,hx3⟩;have HX3:=Hd hx3;clear hx3)
    have eK:KS=false:=by
     have:=HA.out;rw[HN.1,List.all_cons,HN.2.1,HQ.out,Bool.false_and]at this;rw[HKS.out,HK.out,<- this,Bool.and_false]
    have EK:=Hd eK;clear eK;exact bodyPost_ret (results_tmp rfl _ _ _) rfl ⟨by rw[EK.out];rfl,HN.2.2.2.1.then HX3.out⟩
   ·go_wp2_with (go_at_call 267;refine (C1 _).mono ?_;rintro e W3 ⟨rfl,hx3⟩;have HX3:=Hd hx3;clear hx3)
    go_roundg (s.size-(pos+wd))
    case measure=>omega
    case rel=>exact⟨pos+wd,HX3.out.heap HN.2.2.2.2 id,Om,HN.2.2.2.1.then HX3.out,HN.2.2.1,by
     have:=HA.out;rw[HN.1,List.all_cons,HN.2.1,HQ.out,Bool.true_and]at this
     exact this⟩
  ·have hnx:=λty=>Vz (P:=Tryz.prog) HI.out ty hp
   have hsz:s.data.toList.length=s.size:=by rw[Array.length_toList];rfl
   have eA:ANS=true:=by
    have:=HA.out;rw[List.drop_eq_nil_of_le Om]at this;exact this.symm
   have EK:Hid (KS = !s.data.toList.isEmpty):=by
    show KS=_;rw[HKS.out,HK.out,eA,Bool.and_true]
   clear eA hsz;by_cases he:s.data.toList=[]
   ·have hez:(s.toList==[])=true:=by rw[ByteArray.toList_eq];simp[he]
    have EK:Hid (KS=false):=by show KS=false;rw[EK.out,he];rfl
    clear he;go_wp2_with fail
    first|go_ret|go_ret2
    exact⟨by rw[EK.out];rfl,HX⟩
   ·have hez:(s.toList==[])=false:=by rw[ByteArray.toList_eq];simpa using he
    have EK:Hid (KS=true):=by
     show KS=true;rw[EK.out]
     cases hq:s.data.toList.isEmpty with
     | true=>exact absurd (List.isEmpty_iff.1 hq) he
     | false=>rfl
    clear he;go_wp2_with fail
    first|go_ret|go_ret2
    exact⟨by rw[EK.out];rfl,HX⟩
theorem Zbm(nb:Nat)(s:ByteArray)(w:World)(h8:w.cell? ⟨nb,8,none⟩=some (.string s))(hs:s.size<=1000000)(hv:Lib.validD s.data.toList=true) :
  Calls Tryz.prog 199 #[.pointer (some ⟨nb,0,none⟩)] w λe w'=>e=.returned (.int .i64 (extra s))/\Zf w w':=by
 obtain⟨E,hE⟩:∃ E,E=extra s:=⟨_,rfl⟩;rw[<- hE];obtain⟨q,hq⟩:∃ q,q=Lib.runeCount s:=⟨_,rfl⟩;have hqs:q<=1000000:=by have:=Lib.runeCount_le s;omega
 have C1:=λW=>R3 s W Om
 rw[<- hq]at C1;have C2:=λW=>Hf s W hs hv
 have hE2:E=if 2<q/\Gr s=true then ((q-2:Nat):Int)*3000 else if 7<q then ((q-7:Nat):Int)*1700 else 0:=by rw[hE,hq];rfl
 generalize Gr s=kj at C2 hE2;have H8:=Hd h8;have HE:=Hd hE2;clear hE hE2 hq hv h8;have h8:=H8.out;by_cases h2:2<q
 ·have h2z:(2:Int)<(q:Int):=Om
  cases kj
  ·have HE:Hid (E=if 7<q then ((q-7:Nat):Int)*1700 else 0):=by
    show E=_;rw[HE.out,if_neg (by simp)]
   by_cases h7:7<q
   ·have h7z:(7:Int)<(q:Int):=Om;go_enter Tryz.func199,Tryz.ntmps199
    go_wp2_with (first
     | (go_at_call 162;refine (C1 _).mono ?_;rintro e w1 ⟨rfl,hx1⟩;have h8:=hx1.cell h8 id;have HX1:=Hd hx1;clear hx1)
     | (go_at_call 239;refine (C2 _).mono ?_;rintro e w2 ⟨rfl,hx2⟩;have HX2:=Hd hx2;clear hx2)
     | fail)
    have e:E=((q:Int)-7)*1700:=(by rw[HE.out,if_pos h7,(Om:((q-7:Nat):Int)=(q:Int)-7)]);exact bodyPost_ret (results_tmp rfl _ _ _) rfl ⟨by rw[e];rfl,HX1.out.then HX2.out⟩
   ·have h7z:¬ (7:Int)<(q:Int):=Om;go_enter Tryz.func199,Tryz.ntmps199
    go_wp2_with (first
     | (go_at_call 162;refine (C1 _).mono ?_;rintro e w1 ⟨rfl,hx1⟩;have h8:=hx1.cell h8 id;have HX1:=Hd hx1;clear hx1)
     | (go_at_call 239;refine (C2 _).mono ?_;rintro e w2 ⟨rfl,hx2⟩;have HX2:=Hd hx2;clear hx2)
     | fail)
    have e:E=0:=(by rw[HE.out,if_neg h7]);exact bodyPost_ret (results_tmp rfl _ _ _) rfl ⟨by rw[e];rfl,HX1.out.then HX2.out⟩
  ·skip;go_enter Tryz.func199,Tryz.ntmps199
   go_wp2_with (first
    | (go_at_call 162;refine (C1 _).mono ?_;rintro e w1 ⟨rfl,hx1⟩;have h8:=hx1.cell h8 id;have HX1:=Hd hx1;clear hx1)
    | (go_at_call 239;refine (C2 _).mono ?_;rintro e w2 ⟨rfl,hx2⟩;have HX2:=Hd hx2;clear hx2)
    | fail)
   have e:E=((q:Int)-2)*3000:=(by rw[HE.out,if_pos ⟨h2,by trivial⟩,(Om:((q-2:Nat):Int)=(q:Int)-2)]);exact bodyPost_ret (results_tmp rfl _ _ _) rfl ⟨by rw[e];rfl,HX1.out.then HX2.out⟩
 ·have h2z:¬ (2:Int)<(q:Int):=Om
  have HE:Hid (E=if 7<q then ((q-7:Nat):Int)*1700 else 0):=by
   show E=_;rw[HE.out,if_neg (by rintro⟨a,_⟩;exact h2 a)]
  have h7z:¬ (7:Int)<(q:Int):=Om
  have h7:¬ 7<q:=Om
  go_enter Tryz.func199,Tryz.ntmps199
  go_wp2_with (first
   | (go_at_call 162;refine (C1 _).mono ?_;rintro e w1 ⟨rfl,hx1⟩;have h8:=hx1.cell h8 id;have HX1:=Hd hx1;clear hx1)
   | (go_at_call 239;refine (C2 _).mono ?_;rintro e w2 ⟨rfl,hx2⟩;have HX2:=Hd hx2;clear hx2)
   | fail)
  have e:E=0:=by rw[HE.out,if_neg h7]
  exact bodyPost_ret (results_tmp rfl _ _ _) rfl ⟨by rw[e];rfl,HX1.out⟩
end
end Go.Proofs.YtlfoalomaofejaaGreatDoor
