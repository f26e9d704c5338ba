/- The nodes of a lattice are suc -/
import Derived.Test.YtlfoalomaofejaaGreatDoorC29
import Derived.Test.YtlfoalomaofejaaGreatDoorC28
set_option linter.all false
set_option maxRecDepth 100000
namespace Go.Proofs.YtlfoalomaofejaaGreatDoor
section
open Go.RowKit DT SS TR LT
theorem Zdi{d:Zg}(hr:Zm d=true)(cls:Nat):(cls≠3->(0<=zeroM.rt/\zeroM.rt<d.rows)/\(0<=zeroM.lf/\zeroM.lf<d.cols))/\(-32768<=zeroM.wt/\zeroM.wt<=32767):=by
 have h:=Wu hr;refine⟨λ_=>⟨⟨by show (0:Int)<=0;omega,by show (0:Int)<d.rows;omega⟩,by show (0:Int)<=0;omega,by show (0:Int)<d.cols;omega⟩,by show (-32768:Int)<=0;omega,by show (0:Int)<=32767;omega⟩
theorem Zia{d:Zg}(hr:Zm d=true){cls id:Nat}{m:Wd}(h:Mk d cls id m):(cls≠3->(0<=m.rt/\m.rt<d.rows)/\(0<=m.lf/\m.lf<d.cols))/\(-32768<=m.wt/\m.wt<=32767):=by
 rcases h with ⟨rfl,rfl⟩|⟨rfl,hi,rfl⟩|⟨rfl,hi,rfl⟩
 ·exact Zdi hr 3
 ·have:=Te hr (Zu d)[id] ((Zy _ _).mem_iff.1 (List.getElem_mem hi));exact⟨λ_=>⟨this.2.1,this.1⟩,this.2.2.1⟩
 ·have:=M2 hr (Ze d)[id] ((Zy _ _).mem_iff.1 (List.getElem_mem hi));exact⟨λ_=>⟨this.2.2.1,this.2.1⟩,this.2.2.2⟩
theorem Zdn{d:Zg}(hr:Zm d=true){s:ByteArray}{ws:List ByteArray}(hw:Yz ws)(hs:Rd s)(hsz:s.size<=300)(k:Nat)(hk:k<(Zd s).length)(cls:Nat)(mo:Nat->Wd)(hmo:∀ i,i<ws.length->Mk d cls i (mo i)) :
  ∀ x∈Z7 s k (bp (Zd s) k) cls mo (told ws (s.extract (bp (Zd s) k) s.size)),Zbp d (Lib.runeCount s+2) x:=by
 intro x hx;obtain⟨y,hy,rfl⟩:=List.mem_map.1 hx;obtain⟨hi,h1,h2⟩:=Q3 hw hy;have hp:=Y4 (hw.plain _ (List.getElem_mem hi));obtain⟨a1,a2,a3⟩:=K8 hs k Om hp.2.2 h2;rw[h1]at a1 a3;have hm:=Zia hr (hmo y.1 hi);refine⟨?_,?_,?_,hm.1,hm.2⟩
 ·show k<Lib.runeCount s+2;rw[Sm];omega
 ·show Lib.validD (s.extract (bp (Zd s) k) (bp (Zd s) k+y.2)).data.toList=true;rw[a3];exact hp.2.2
 ·show (s.extract (bp (Zd s) k) (bp (Zd s) k+y.2)).size<=1000;rw[ByteArray.size_extract];omega
theorem Zgw{d:Zg}(hr:Zm d=true){s:ByteArray}(hs:Rd s)(hsz:s.size<=300)(k e:Nat)(hk:k<(Zd s).length)(he:k<=e)(he2:e<=(Zd s).length)(id:Nat)(hid:id<(Ze d).length) :
  Zbp d (Lib.runeCount s+2) (Xi s k (bp (Zd s) k) 2 (((Ze d).map Kk).getD id default) id (bp (Zd s) e-bp (Zd s) k)):=by
 have hm:=Zia hr (Fy (d:=d) id hid);have hb:=Mh (Zd s) he;refine⟨?_,?_,?_,hm.1,hm.2⟩
 ·show k<Lib.runeCount s+2;rw[Sm];omega
 ·show Lib.validD (s.extract (bp (Zd s) k) (bp (Zd s) k+(bp (Zd s) e-bp (Zd s) k))).data.toList=true;rw[(Om:bp (Zd s) k+(bp (Zd s) e-bp (Zd s) k)=bp (Zd s) e),Dp s k e he];exact UC.good_valid _ (λc hc=>(hs c (List.mem_of_mem_drop (List.mem_of_mem_take hc))).1)
 ·show (s.extract (bp (Zd s) k) (bp (Zd s) k+(bp (Zd s) e-bp (Zd s) k))).size<=1000;rw[ByteArray.size_extract];omega
theorem Zid{d:Zg}(hr:Zm d=true)(hd:I4 d)(uk:Option (List ByteArray))(hu:∀ ks,uk=some ks->Yz ks){s:ByteArray}(hs:Rd s)(hsz:s.size<=300):∀ x∈lat (Z2 d uk) s,Zbp d (Lib.runeCount s+2) x:=by
 intro x hx;have hz:=Zdi hr 0;unfold lat V2 at hx;rcases List.mem_cons.1 hx with rfl|hx
 ·exact⟨by show 0<Lib.runeCount s+2;omega,rfl,by show ByteArray.empty.size<=1000;decide,hz.1,hz.2⟩
 rcases List.mem_cons.1 hx with rfl|hx
 ·exact⟨by show Lib.runeCount s<Lib.runeCount s+2;omega,rfl,by show ByteArray.empty.size<=1000;decide,hz.1,hz.2⟩
 obtain⟨k,hk,hx⟩:=List.mem_flatMap.1 hx;have hk:k<(Zd s).length:=by rw[<- Sm];exact List.mem_range.1 hk
 have known:∀ x∈Vf (Z2 d uk) s k (bp (Zd s) k),Zbp d (Lib.runeCount s+2) x:=λx hx=>by
  rw[<- Gn]at hx;exact Zdn hr (Py hr hd) hs hsz k hk 1 _ (λi hi=>Gp i hi) x hx
 have user:∀ x∈Uk (Z2 d uk) s k (bp (Zd s) k),Zbp d (Lib.runeCount s+2) x:=λx hx=>by
  cases uk with
  | none=>cases hx
  | some ks =>
   rw[<- Cx]at hx;exact Zdn hr (hu ks rfl) hs hsz k hk 3 _ (λi _=>.inl ⟨rfl,rfl⟩) x hx
 have unk:∀ x∈Ok (Z2 d uk) s (Zd s) k,Zbp d (Lib.runeCount s+2) x:=λx hx=>by
  have hm:=(Nw hr uk _ (It hr uk (Xa ((Zd s).getD k [])))).2.2
  have he:k+1<=Wy (Z2 d uk) (Zd s) k/\Wy (Z2 d uk) (Zd s) k<=(Zd s).length:=by
   unfold Wy;simp only;have:=P1 (Z2 d uk).cat ((Z2 d uk).cat (Xa ((Zd s).getD k []))) 1023 ((Zd s).drop (k+1));rw[List.length_drop]at this
   split<;>omega
  obtain⟨i,hi,hx⟩:=List.mem_flatMap.1 hx;have hi:=List.mem_range.1 hi;rcases List.mem_append.1 hx with hx|hx
  ·split at hx
   ·rw[List.mem_singleton.1 hx];exact Zgw hr hs hsz k (Wy (Z2 d uk) (Zd s) k-1) hk Om Om _ Om
   ·cases hx
  ·rw[List.mem_singleton.1 hx];exact Zgw hr hs hsz k (Wy (Z2 d uk) (Zd s) k) hk Om Om _ Om
 unfold Xl at hx
 split at hx
 ·rcases List.mem_append.1 hx with hx|hx
  ·exact known x hx
  ·split at hx
   ·exact unk x hx
   ·cases hx
 ·exact user x hx
end
end Go.Proofs.YtlfoalomaofejaaGreatDoor
section
namespace LT
open Go Go.Lib UC
structure Yw where
 index:Nat
 id:Int
 cls:Nat
 pos:Nat
 start:Nat
 fin:Nat
 surf:ByteArray
deriving Inhabited
def Znp:ByteArray:=⟨#[66,79,83]⟩
def Znn:ByteArray:=⟨#[69,79,83]⟩
def Qp(om:Bool)(i:Nat)(acc:List Yw)(x:Nd):List Yw :=
 if om=true/\x.id = -1 then acc else acc++[⟨acc.length,x.id,x.cls,x.pos,x.start,x.start+runeCount x.surf,if x.id = -1 then (if i=0 then Znp else Znn) else x.surf⟩]
def Vi(om:Bool)(l:List Nd):Nat->List Yw
 | 0=>[]
 | i+1=>Qp om i (Vi om l i) (l.getD i default)
theorem Lq(om:Bool)(l:List Nd):∀ i,(Vi om l i).length<=i
 | 0=>by simp[Vi]
 | i+1=>by
  have:=Lq om l i;unfold Vi Qp
  split
  ·omega
  ·rw[List.length_append,List.length_singleton];omega
def Oy(mode:Int):Int:=if mode=2 then 2 else if mode=3 then 3 else 1
def M8(D:Dk)(mode:Int)(s:ByteArray):List Nd:=(U6 (lat D s) (Vs D mode (lat D s) (runeCount s+2)).prev (some 1)).flatMap λm=>Y8 mode ((lat D s).getD m default)
def Vn(D:Dk)(om:Bool)(mode:Int)(s:ByteArray):List Yw:=Vi om (M8 D mode s).reverse (M8 D mode s).length
theorem Xk.all{D:Dk}{mode:Int}{ns:List Nd}{t:Nat}:∀ (l:List Nat) (st:St) (f:Bool),Xk st->Xk (Vc D mode ns t st f l)
 | [],_,_,h=>h
 | _::l,_,_,h=>Xk.all l _ false h.relax
theorem Xk.node{D:Dk}{mode:Int}{ns:List Nd}{st:St}(h:Xk st)(t:Nat):Xk (Wg D mode ns st t):=by
 unfold Wg
 split
 ·exact h.up t _ _ (by unfold Vl;omega)
 ·exact Xk.all _ _ _ h
theorem Xk.row{D:Dk}{mode:Int}{ns:List Nd}:∀ (l:List Nat) (st:St),Xk st->Xk (l.foldl (Wg D mode ns) st)
 | [],_,h=>h
 | a::l,_,h=>Xk.row l _ (h.node a)
theorem G9(D:Dk)(mode:Int)(ns:List Nd):∀ p,Xk (Vs D mode ns p)
 | 0=>λt=>⟨by show (-2147483648:Int)<=0;omega,by show (0:Int)<=2147483647;omega⟩
 | p+1=>by
  show Xk (if p=0 then _ else _)
  split
  ·exact λt=>⟨by show (-2147483648:Int)<=0;omega,by show (0:Int)<=2147483647;omega⟩
  ·exact Xk.row _ _ (G9 D mode ns p)
theorem Eq(D:Dk)(s:ByteArray):(row (lat D s) (runeCount s+2-1))[0]?=some 1:=by
 have e:lat D s=Qw::Od s::(List.range (runeCount s)).flatMap (Xl D s (Zd s)):=rfl;unfold row;rw[e];generalize (List.range (runeCount s)).flatMap (Xl D s (Zd s))=l
 have r:List.range (Qw::Od s::l).length=0::1::(List.range l.length).map (· + 2):=by
  rw[List.length_cons,List.length_cons,List.range_succ_eq_map,List.range_succ_eq_map];simp
 rw[r,List.filter_cons,List.filter_cons]
 have h0:(((Qw::Od s::l).getD 0 default).fin==runeCount s+2-1)=false:=by
  show ((0:Nat)==runeCount s+2-1)=false;simp
 have h1:(((Qw::Od s::l).getD 1 default).fin==runeCount s+2-1)=true:=by
  show (runeCount s+1==runeCount s+2-1)=true;simp
 rw[h0,h1];rfl
end LT
namespace Go.Proofs.YtlfoalomaofejaaGreatDoor
open Go.RowKit DT SS TR LT
theorem Zmj{s:ByteArray}(hv:Lib.validD s.data.toList=true)(hne:s≠ByteArray.empty):1<=Lib.runeCount s:=by
 rw[UC.count_chunk];have hn:s.data.toList≠[]:=λe=>hne (ByteArray.ext (Array.toList_inj.1 e))
 rw[UC.chunk_step _ hn];simp
structure Ff(s:ByteArray)(x:Nd):Prop where
 up:x.start<x.fin
 pos:x.pos<=s.size
 start:x.start<=s.size
 id:-1<=x.id/\x.id<=1000000
theorem Zdm{s:ByteArray}{ws:List ByteArray}(hw:Yz ws)(hs:Rd s)(k:Nat)(hk:k<(Zd s).length)(cls:Nat)(mo:Nat->Wd) :
  ∀ x∈Z7 s k (bp (Zd s) k) cls mo (told ws (s.extract (bp (Zd s) k) s.size)),Ff s x:=by
 intro x hx;obtain⟨y,hy,rfl⟩:=List.mem_map.1 hx;obtain⟨hi,h1,h2⟩:=Q3 hw hy;have hp:=Y4 (hw.plain _ (List.getElem_mem hi));obtain⟨a1,a2,a3⟩:=K8 hs k Om hp.2.2 h2;rw[h1]at a1 a3;have hr:=Lib.runeCount_le s;rw[Sm]at hr;have hl:=hw.len;refine⟨?_,Mi s k,by show k<=s.size;omega,by show -1<=(y.1:Int)/\(y.1:Int)<=1000000;omega⟩;show k<k+Lib.runeCount (s.extract (bp (Zd s) k) (bp (Zd s) k+y.2));rw[a3];have:=Zmj hp.2.2 hp.2.1;omega
theorem Zgv{s:ByteArray}(hs:Rd s)(k e:Nat)(hk:k<(Zd s).length)(he:k<e)(he2:e<=(Zd s).length)(m:Wd)(id:Nat)(hid:id<=1000000) :
  Ff s (Xi s k (bp (Zd s) k) 2 m id (bp (Zd s) e-bp (Zd s) k)):=by
 have hr:=Lib.runeCount_le s;rw[Sm]at hr;have hb:=Mh (Zd s) ((Om:k<=e));refine⟨?_,Mi s k,by show k<=s.size;omega,by show -1<=(id:Int)/\(id:Int)<=1000000;omega⟩;show k<k+Lib.runeCount (s.extract (bp (Zd s) k) (bp (Zd s) k+(bp (Zd s) e-bp (Zd s) k)));rw[(Om:bp (Zd s) k+(bp (Zd s) e-bp (Zd s) k)=bp (Zd s) e),Il hs k e Om he2];omega
theorem Zie{d:Zg}(hr:Zm d=true)(hd:I4 d)(uk:Option (List ByteArray))(hu:∀ ks,uk=some ks->Yz ks){s:ByteArray}(hs:Rd s):∀ x∈lat (Z2 d uk) s,x=Qw\/Ff s x:=by
 intro x hx;have hrc:=Lib.runeCount_le s;unfold lat V2 at hx;rcases List.mem_cons.1 hx with rfl|hx
 ·exact .inl rfl
 right;rcases List.mem_cons.1 hx with rfl|hx
 ·exact⟨by show Lib.runeCount s<Lib.runeCount s+1;omega,by show s.size<=s.size;omega,hrc,by show (-1:Int) <= -1/\(-1:Int)<=1000000;omega⟩
 obtain⟨k,hk,hx⟩:=List.mem_flatMap.1 hx;have hk:k<(Zd s).length:=by rw[<- Sm];exact List.mem_range.1 hk
 have known:∀ x∈Vf (Z2 d uk) s k (bp (Zd s) k),Ff s x:=λx hx=>by
  rw[<- Gn]at hx;exact Zdm (Py hr hd) hs k hk 1 _ x hx
 have user:∀ x∈Uk (Z2 d uk) s k (bp (Zd s) k),Ff s x:=λx hx=>by
  cases uk with
  | none=>cases hx
  | some ks =>
   rw[<- Cx]at hx;exact Zdm (hu ks rfl) hs k hk 3 _ x hx
 have unk:∀ x∈Ok (Z2 d uk) s (Zd s) k,Ff s x:=λx hx=>by
  have hm:=(Nw hr uk _ (It hr uk (Xa ((Zd s).getD k [])))).2.2;have hul:=hd.unk;rw[Wj]at hm
  have he:k+1<=Wy (Z2 d uk) (Zd s) k/\Wy (Z2 d uk) (Zd s) k<=(Zd s).length:=by
   unfold Wy;simp only;have:=P1 (Z2 d uk).cat ((Z2 d uk).cat (Xa ((Zd s).getD k []))) 1023 ((Zd s).drop (k+1));rw[List.length_drop]at this
   split<;>omega
  obtain⟨i,hi,hx⟩:=List.mem_flatMap.1 hx;have hi:=List.mem_range.1 hi;rcases List.mem_append.1 hx with hx|hx
  ·split at hx
   ·rw[List.mem_singleton.1 hx];exact Zgv hs k (Wy (Z2 d uk) (Zd s) k-1) hk Om Om _ _ Om
   ·cases hx
  ·rw[List.mem_singleton.1 hx];exact Zgv hs k (Wy (Z2 d uk) (Zd s) k) hk Om Om _ _ Om
 unfold Xl at hx
 split at hx
 ·rcases List.mem_append.1 hx with hx|hx
  ·exact known x hx
  ·split at hx
   ·exact unk x hx
   ·cases hx
 ·exact user x hx
theorem Nz{d:Zg}(hr:Zm d=true)(hd:I4 d)(uk:Option (List ByteArray))(hu:∀ ks,uk=some ks->Yz ks){s:ByteArray}(hs:Rd s)(hsz:s.size<=300):(∀ x∈lat (Z2 d uk) s,Zju x)/\(∀ x∈lat (Z2 d uk) s,1<=x.fin->x.start<x.fin):=by
 refine⟨λx hx=>?_,λx hx h1=>?_⟩
 ·have h:=Zid hr hd uk hu hs hsz x hx;rcases Zie hr hd uk hu hs x hx with rfl|h2
  ·exact⟨h.valid,h.size,by show 0<=1000000;omega,by show 0<=1000000;omega,by show (-1:Int) <= -1/\(-1:Int)<=1000000;omega⟩
  ·exact⟨h.valid,h.size,by have:=h2.pos;omega,by have:=h2.start;omega,h2.id⟩
 ·rcases Zie hr hd uk hu hs x hx with rfl|h2
  ·exact absurd h1 (by show ¬ 1<=0;omega)
  ·exact h2.up
theorem Zft{mode:Int}{x:Nd}(h:Zju x):∀ y∈Y8 mode x,y.start<=2000000/\y.surf.size<=1000:=by
 intro y hy;have hs:=h.size;have h1:=h.start;unfold Y8 at hy
 split at hy
 ·rw[List.mem_singleton.1 hy];omega
 ·rw[List.mem_reverse]at hy;obtain⟨i,hi,rfl⟩:=List.mem_map.1 hy;have hi:=List.mem_range.1 hi;have hr:=Lib.runeCount_le x.surf;rw[Sm]at hr;refine⟨by show x.start+i<=2000000;omega,?_⟩;show ((Zd x.surf).getD i []).toArray.size<=1000;rw[List.getD_eq_getElem?_getD,Ge hi]
  have h2:((Zd x.surf)[i]).length<=x.surf.data.size:=by
   rw[<- Array.length_toList,<- So];exact (List.sublist_flatten_of_mem (List.getElem_mem hi)).length_le
  have:x.surf.data.size=x.surf.size:=rfl;show ((Zd x.surf)[i]).length<=1000;omega
theorem Zdv{d:Zg}(hr:Zm d=true)(hd:I4 d)(uk:Option (List ByteArray))(hu:∀ ks,uk=some ks->Yz ks){s:ByteArray}(hs:Rd s)(hsz:s.size<=300)(mode:Int):∀ y∈M8 (Z2 d uk) mode s,y.start<=2000000/\y.surf.size<=1000:=by
 intro y hy;obtain⟨m,hm,hy⟩:=List.mem_flatMap.1 hy;have hlo:=Nz hr hd uk hu hs hsz
 have t1:1<(lat (Z2 d uk) s).length:=by
  have:lat (Z2 d uk) s=Qw::Od s::(List.range (Lib.runeCount s)).flatMap (Xl (Z2 d uk) s (Zd s)):=rfl;rw[this,List.length_cons,List.length_cons];omega
 have hml:=Ps (Ma (Z2 d uk) mode _ hlo.2 _) _ _ t1 m hm;have e:(lat (Z2 d uk) s).getD m default=(lat (Z2 d uk) s)[m]:=by rw[List.getD_eq_getElem?_getD,Ge hml];rfl
 rw[e]at hy;exact Zft (hlo.1 _ (List.getElem_mem hml)) y hy
end Go.Proofs.YtlfoalomaofejaaGreatDoor
end
namespace Go.Proofs.YtlfoalomaofejaaGreatDoor
section
open Go.RowKit
theorem Zcn(a b:Option Addr)(w:World):Calls Tryz.prog 157 #[.pointer a,.pointer b] w λe w'=>e=.returned (.pointer (some ⟨w.heap.size,0,none⟩))/\w'.heap[w.heap.size]?=some (.cells #[.string .empty,.slice none 0 0,.slice none 0 0,.pointer a,.pointer b] 300 (0,0))/\Zf w w':=by
 go_enter Tryz.func157,Tryz.ntmps157
 go_wp2_with fail
 first|go_ret|go_ret2
 exact⟨rfl,alloc_at _ _,(Fl _).alloc _⟩
end
end Go.Proofs.YtlfoalomaofejaaGreatDoor
