/- The nodes of a lattice are suc -/
import Derived.Test.YtoliamijgmifkaaGreatDoorH28
import Derived.Test.YtoliamijgmifkaaGreatDoorH27
set_option linter.all false
set_option maxRecDepth 100000
namespace Go.Proofs.YtoliamijgmifkaaGreatDoor
section
open Go.RowKit DT SS TR LT
theorem Zge{d:Zj}(hr:Zp d=true)(cls:Nat):(cls≠3->(0<=zeroM.rt/\zeroM.rt<d.rows)/\(0<=zeroM.lf/\zeroM.lf<d.cols))/\(-32768<=zeroM.wt/\zeroM.wt<=32767):=by
 have h:=Vd hr;refine⟨λ_=>⟨⟨by show (0:Int)<=0;omega,by show (0:Int)<d.rows;omega⟩,by show (0:Int)<=0;omega,by show (0:Int)<d.cols;omega⟩,by show (-32768:Int)<=0;omega,by show (0:Int)<=32767;omega⟩
theorem Zk7{d:Zj}(hr:Zp d=true){cls id:Nat}{m:Wk}(h:Ih d cls id m):(cls≠3->(0<=m.rt/\m.rt<d.rows)/\(0<=m.lf/\m.lf<d.cols))/\(-32768<=m.wt/\m.wt<=32767):=by
 rcases h with ⟨rfl,rfl⟩|⟨rfl,hi,rfl⟩|⟨rfl,hi,rfl⟩
 ·exact Zge hr 3
 ·have:=Tw hr (Zv d)[id] ((sortL_perm _ _).mem_iff.1 (List.getElem_mem hi));exact⟨λ_=>⟨this.2.1,this.1⟩,this.2.2.1⟩
 ·have:=Ix hr (Zf d)[id] ((sortL_perm _ _).mem_iff.1 (List.getElem_mem hi));exact⟨λ_=>⟨this.2.2.1,this.2.1⟩,this.2.2.2⟩
theorem Zgk{d:Zj}(hr:Zp d=true){s:ByteArray}{ws:List ByteArray}(hw:Y3 ws)(hs:Rd s)(hsz:s.size<=300)(k:Nat)(hk:k<(Zh s).length)(cls:Nat)(mo:Nat->Wk)(hmo:∀ i,i<ws.length->Ih d cls i (mo i)) :
  ∀ x∈Z7 s k (bp (Zh s) k) cls mo (told ws (s.extract (bp (Zh s) k) s.size)),Zek d (Lib.runeCount s+2) x:=by
 intro x hx;obtain⟨y,hy,rfl⟩:=List.mem_map.1 hx;obtain⟨hi,h1,h2⟩:=Ns hw hy;have hp:=Y8 (hw.plain _ (List.getElem_mem hi));obtain⟨a1,a2,a3⟩:=G7 hs k Om hp.2.2 h2;rw[h1]at a1 a3;have hm:=Zk7 hr (hmo y.1 hi);refine⟨?_,?_,?_,hm.1,hm.2⟩
 ·show k<Lib.runeCount s+2;rw[Rj];omega
 ·show Lib.validD (s.extract (bp (Zh s) k) (bp (Zh s) k+y.2)).data.toList=true;rw[a3];exact hp.2.2
 ·show (s.extract (bp (Zh s) k) (bp (Zh s) k+y.2)).size<=1000;rw[ByteArray.size_extract];omega
theorem Zjv{d:Zj}(hr:Zp d=true){s:ByteArray}(hs:Rd s)(hsz:s.size<=300)(k e:Nat)(hk:k<(Zh s).length)(he:k<=e)(he2:e<=(Zh s).length)(id:Nat)(hid:id<(Zf d).length) :
  Zek d (Lib.runeCount s+2) (Xm s k (bp (Zh s) k) 2 (((Zf d).map Gj).getD id default) id (bp (Zh s) e-bp (Zh s) k)):=by
 have hm:=Zk7 hr (Zag (d:=d) id hid);have hb:=Ib (Zh s) he;refine⟨?_,?_,?_,hm.1,hm.2⟩
 ·show k<Lib.runeCount s+2;rw[Rj];omega
 ·show Lib.validD (s.extract (bp (Zh s) k) (bp (Zh s) k+(bp (Zh s) e-bp (Zh s) k))).data.toList=true;rw[(Om:bp (Zh s) k+(bp (Zh s) e-bp (Zh s) k)=bp (Zh s) e),Zbk s k e he];exact UC.good_valid _ (λc hc=>(hs c (List.mem_of_mem_drop (List.mem_of_mem_take hc))).1)
 ·show (s.extract (bp (Zh s) k) (bp (Zh s) k+(bp (Zh s) e-bp (Zh s) k))).size<=1000;rw[ByteArray.size_extract];omega
theorem Zk9{d:Zj}(hr:Zp d=true)(hd:Gw d)(uk:Option (List ByteArray))(hu:∀ ks,uk=some ks->Y3 ks){s:ByteArray}(hs:Rd s)(hsz:s.size<=300):∀ x∈lat (Zz d uk) s,Zek d (Lib.runeCount s+2) x:=by
 intro x hx;have hz:=Zge hr 0;unfold lat Uc at hx;rcases List.mem_cons.1 hx with rfl|hx
 ·exact⟨by show 0<Lib.runeCount s+2;omega,rfl,by show ByteArray.empty.size<=1000;decide,hz.1,hz.2⟩
 rcases List.mem_cons.1 hx with rfl|hx
 ·exact⟨by show Lib.runeCount s<Lib.runeCount s+2;omega,rfl,by show ByteArray.empty.size<=1000;decide,hz.1,hz.2⟩
 obtain⟨k,hk,hx⟩:=List.mem_flatMap.1 hx;have hk:k<(Zh s).length:=by rw[<- Rj];exact List.mem_range.1 hk
 have known:∀ x∈Vq (Zz d uk) s k (bp (Zh s) k),Zek d (Lib.runeCount s+2) x:=λx hx=>by
  rw[<- Bn]at hx;exact Zgk hr (Mq hr hd) hs hsz k hk 1 _ (λi hi=>Bo i hi) x hx
 have user:∀ x∈Uw (Zz d uk) s k (bp (Zh s) k),Zek d (Lib.runeCount s+2) x:=λx hx=>by
  cases uk with
  | none=>cases hx
  | some ks =>
   rw[<- Zb6]at hx;exact Zgk hr (hu ks rfl) hs hsz k hk 3 _ (λi _=>.inl ⟨rfl,rfl⟩) x hx
 have unk:∀ x∈Ld (Zz d uk) s (Zh s) k,Zek d (Lib.runeCount s+2) x:=λx hx=>by
  have hm:=(Jd hr uk _ (De hr uk (Xf ((Zh s).getD k [])))).2.2
  have he:k+1<=Vk (Zz d uk) (Zh s) k/\Vk (Zz d uk) (Zh s) k<=(Zh s).length:=by
   unfold Vk;simp only;have:=Mt (Zz d uk).cat ((Zz d uk).cat (Xf ((Zh s).getD k []))) 1023 ((Zh s).drop (k+1));rw[List.length_drop]at this
   split<;>omega
  obtain⟨i,hi,hx⟩:=List.mem_flatMap.1 hx;have hi:=List.mem_range.1 hi;rcases List.mem_append.1 hx with hx|hx
  ·split at hx
   ·rw[List.mem_singleton.1 hx];exact Zjv hr hs hsz k (Vk (Zz d uk) (Zh s) k-1) hk Om Om _ Om
   ·cases hx
  ·rw[List.mem_singleton.1 hx];exact Zjv hr hs hsz k (Vk (Zz d uk) (Zh s) k) hk Om Om _ Om
 unfold Xs at hx
 split at hx
 ·rcases List.mem_append.1 hx with hx|hx
  ·exact known x hx
  ·split at hx
   ·exact unk x hx
   ·cases hx
 ·exact user x hx
end
end Go.Proofs.YtoliamijgmifkaaGreatDoor
section
namespace LT
open Go Go.Lib UC
structure Yu where
 index:Nat
 id:Int
 cls:Nat
 pos:Nat
 start:Nat
 fin:Nat
 surf:ByteArray
deriving Inhabited
def Zp4:ByteArray:=⟨#[66,79,83]⟩
def Zp2:ByteArray:=⟨#[69,79,83]⟩
def Ng(om:Bool)(i:Nat)(acc:List Yu)(x:Nd):List Yu :=
 if om=true/\x.id = -1 then acc else acc++[⟨acc.length,x.id,x.cls,x.pos,x.start,x.start+runeCount x.surf,if x.id = -1 then (if i=0 then Zp4 else Zp2) else x.surf⟩]
def Vs(om:Bool)(l:List Nd):Nat->List Yu
 | 0=>[]
 | i+1=>Ng om i (Vs om l i) (l.getD i default)
theorem Hi(om:Bool)(l:List Nd):∀ i,(Vs om l i).length<=i
 | 0=>by simp[Vs]
 | i+1=>by
  have:=Hi om l i;unfold Vs Ng
  split
  ·omega
  ·rw[List.length_append,List.length_singleton];omega
def Wu(mode:Int):Int:=if mode=2 then 2 else if mode=3 then 3 else 1
def I3(D:Dk)(mode:Int)(s:ByteArray):List Nd:=(Ts (lat D s) (V3 D mode (lat D s) (runeCount s+2)).prev (some 1)).flatMap λm=>Xd mode ((lat D s).getD m default)
def Xn(D:Dk)(om:Bool)(mode:Int)(s:ByteArray):List Yu:=Vs om (I3 D mode s).reverse (I3 D mode s).length
theorem Xo.all{D:Dk}{mode:Int}{ns:List Nd}{t:Nat}:∀ (l:List Nat) (st:St) (f:Bool),Xo st->Xo (Vn D mode ns t st f l)
 | [],_,_,h=>h
 | _::l,_,_,h=>Xo.all l _ false h.relax
theorem Xo.node{D:Dk}{mode:Int}{ns:List Nd}{st:St}(h:Xo st)(t:Nat):Xo (Wm D mode ns st t):=by
 unfold Wm
 split
 ·exact h.up t _ _ (by unfold Vv;omega)
 ·exact Xo.all _ _ _ h
theorem Xo.row{D:Dk}{mode:Int}{ns:List Nd}:∀ (l:List Nat) (st:St),Xo st->Xo (l.foldl (Wm D mode ns) st)
 | [],_,h=>h
 | a::l,_,h=>Xo.row l _ (h.node a)
theorem Bw(D:Dk)(mode:Int)(ns:List Nd):∀ p,Xo (V3 D mode ns p)
 | 0=>λt=>⟨by show (-2147483648:Int)<=0;omega,by show (0:Int)<=2147483647;omega⟩
 | p+1=>by
  show Xo (if p=0 then _ else _)
  split
  ·exact λt=>⟨by show (-2147483648:Int)<=0;omega,by show (0:Int)<=2147483647;omega⟩
  ·exact Xo.row _ _ (Bw D mode ns p)
theorem Zax(D:Dk)(s:ByteArray):(row (lat D s) (runeCount s+2-1))[0]?=some 1:=by
 have e:lat D s=Nn::M6 s::(List.range (runeCount s)).flatMap (Xs D s (Zh s)):=rfl;unfold row;rw[e];generalize (List.range (runeCount s)).flatMap (Xs D s (Zh s))=l
 have r:List.range (Nn::M6 s::l).length=0::1::(List.range l.length).map (· + 2):=by
  rw[List.length_cons,List.length_cons,List.range_succ_eq_map,List.range_succ_eq_map];simp
 rw[r,List.filter_cons,List.filter_cons]
 have h0:(((Nn::M6 s::l).getD 0 default).fin==runeCount s+2-1)=false:=by
  show ((0:Nat)==runeCount s+2-1)=false;simp
 have h1:(((Nn::M6 s::l).getD 1 default).fin==runeCount s+2-1)=true:=by
  show (runeCount s+1==runeCount s+2-1)=true;simp
 rw[h0,h1];rfl
end LT
namespace Go.Proofs.YtoliamijgmifkaaGreatDoor
open Go.RowKit DT SS TR LT
theorem Zoy{s:ByteArray}(hv:Lib.validD s.data.toList=true)(hne:s≠ByteArray.empty):1<=Lib.runeCount s:=by
 rw[UC.count_chunk];have hn:s.data.toList≠[]:=λe=>hne (ByteArray.ext (Array.toList_inj.1 e))
 rw[UC.chunk_step _ hn];simp
structure Ag(s:ByteArray)(x:Nd):Prop where
 up:x.start<x.fin
 pos:x.pos<=s.size
 start:x.start<=s.size
 id:-1<=x.id/\x.id<=1000000
theorem Zgj{s:ByteArray}{ws:List ByteArray}(hw:Y3 ws)(hs:Rd s)(k:Nat)(hk:k<(Zh s).length)(cls:Nat)(mo:Nat->Wk) :
  ∀ x∈Z7 s k (bp (Zh s) k) cls mo (told ws (s.extract (bp (Zh s) k) s.size)),Ag s x:=by
 intro x hx;obtain⟨y,hy,rfl⟩:=List.mem_map.1 hx;obtain⟨hi,h1,h2⟩:=Ns hw hy;have hp:=Y8 (hw.plain _ (List.getElem_mem hi));obtain⟨a1,a2,a3⟩:=G7 hs k Om hp.2.2 h2;rw[h1]at a1 a3;have hr:=Lib.runeCount_le s;rw[Rj]at hr;have hl:=hw.len;refine⟨?_,Ic s k,by show k<=s.size;omega,by show -1<=(y.1:Int)/\(y.1:Int)<=1000000;omega⟩;show k<k+Lib.runeCount (s.extract (bp (Zh s) k) (bp (Zh s) k+y.2));rw[a3];have:=Zoy hp.2.2 hp.2.1;omega
theorem Zju{s:ByteArray}(hs:Rd s)(k e:Nat)(hk:k<(Zh s).length)(he:k<e)(he2:e<=(Zh s).length)(m:Wk)(id:Nat)(hid:id<=1000000) :
  Ag s (Xm s k (bp (Zh s) k) 2 m id (bp (Zh s) e-bp (Zh s) k)):=by
 have hr:=Lib.runeCount_le s;rw[Rj]at hr;have hb:=Ib (Zh s) ((Om:k<=e));refine⟨?_,Ic s k,by show k<=s.size;omega,by show -1<=(id:Int)/\(id:Int)<=1000000;omega⟩;show k<k+Lib.runeCount (s.extract (bp (Zh s) k) (bp (Zh s) k+(bp (Zh s) e-bp (Zh s) k)));rw[(Om:bp (Zh s) k+(bp (Zh s) e-bp (Zh s) k)=bp (Zh s) e),E9 hs k e Om he2];omega
theorem Zla{d:Zj}(hr:Zp d=true)(hd:Gw d)(uk:Option (List ByteArray))(hu:∀ ks,uk=some ks->Y3 ks){s:ByteArray}(hs:Rd s):∀ x∈lat (Zz d uk) s,x=Nn\/Ag s x:=by
 intro x hx;have hrc:=Lib.runeCount_le s;unfold lat Uc at hx;rcases List.mem_cons.1 hx with rfl|hx
 ·exact .inl rfl
 right;rcases List.mem_cons.1 hx with rfl|hx
 ·exact⟨by show Lib.runeCount s<Lib.runeCount s+1;omega,by show s.size<=s.size;omega,hrc,by show (-1:Int) <= -1/\(-1:Int)<=1000000;omega⟩
 obtain⟨k,hk,hx⟩:=List.mem_flatMap.1 hx;have hk:k<(Zh s).length:=by rw[<- Rj];exact List.mem_range.1 hk
 have known:∀ x∈Vq (Zz d uk) s k (bp (Zh s) k),Ag s x:=λx hx=>by
  rw[<- Bn]at hx;exact Zgj (Mq hr hd) hs k hk 1 _ x hx
 have user:∀ x∈Uw (Zz d uk) s k (bp (Zh s) k),Ag s x:=λx hx=>by
  cases uk with
  | none=>cases hx
  | some ks =>
   rw[<- Zb6]at hx;exact Zgj (hu ks rfl) hs k hk 3 _ x hx
 have unk:∀ x∈Ld (Zz d uk) s (Zh s) k,Ag s x:=λx hx=>by
  have hm:=(Jd hr uk _ (De hr uk (Xf ((Zh s).getD k [])))).2.2;have hul:=hd.unk;rw[Xu]at hm
  have he:k+1<=Vk (Zz d uk) (Zh s) k/\Vk (Zz d uk) (Zh s) k<=(Zh s).length:=by
   unfold Vk;simp only;have:=Mt (Zz d uk).cat ((Zz d uk).cat (Xf ((Zh s).getD k []))) 1023 ((Zh s).drop (k+1));rw[List.length_drop]at this
   split<;>omega
  obtain⟨i,hi,hx⟩:=List.mem_flatMap.1 hx;have hi:=List.mem_range.1 hi;rcases List.mem_append.1 hx with hx|hx
  ·split at hx
   ·rw[List.mem_singleton.1 hx];exact Zju hs k (Vk (Zz d uk) (Zh s) k-1) hk Om Om _ _ Om
   ·cases hx
  ·rw[List.mem_singleton.1 hx];exact Zju hs k (Vk (Zz d uk) (Zh s) k) hk Om Om _ _ Om
 unfold Xs at hx
 split at hx
 ·rcases List.mem_append.1 hx with hx|hx
  ·exact known x hx
  ·split at hx
   ·exact unk x hx
   ·cases hx
 ·exact user x hx
theorem Jg{d:Zj}(hr:Zp d=true)(hd:Gw d)(uk:Option (List ByteArray))(hu:∀ ks,uk=some ks->Y3 ks){s:ByteArray}(hs:Rd s)(hsz:s.size<=300):(∀ x∈lat (Zz d uk) s,Zmk x)/\(∀ x∈lat (Zz d uk) s,1<=x.fin->x.start<x.fin):=by
 refine⟨λx hx=>?_,λx hx h1=>?_⟩
 ·have h:=Zk9 hr hd uk hu hs hsz x hx;rcases Zla hr hd uk hu hs x hx with rfl|h2
  ·exact⟨h.valid,h.size,by show 0<=1000000;omega,by show 0<=1000000;omega,by show (-1:Int) <= -1/\(-1:Int)<=1000000;omega⟩
  ·exact⟨h.valid,h.size,by have:=h2.pos;omega,by have:=h2.start;omega,h2.id⟩
 ·rcases Zla hr hd uk hu hs x hx with rfl|h2
  ·exact absurd h1 (by show ¬ 1<=0;omega)
  ·exact h2.up
theorem Ziw{mode:Int}{x:Nd}(h:Zmk x):∀ y∈Xd mode x,y.start<=2000000/\y.surf.size<=1000:=by
 intro y hy;have hs:=h.size;have h1:=h.start;unfold Xd at hy
 split at hy
 ·rw[List.mem_singleton.1 hy];omega
 ·rw[List.mem_reverse]at hy;obtain⟨i,hi,rfl⟩:=List.mem_map.1 hy;have hi:=List.mem_range.1 hi;have hr:=Lib.runeCount_le x.surf;rw[Rj]at hr;refine⟨by show x.start+i<=2000000;omega,?_⟩;show ((Zh x.surf).getD i []).toArray.size<=1000;rw[List.getD_eq_getElem?_getD,Ge hi]
  have h2:((Zh x.surf)[i]).length<=x.surf.data.size:=by
   rw[<- Array.length_toList,<- Ro];exact (List.sublist_flatten_of_mem (List.getElem_mem hi)).length_le
  have:x.surf.data.size=x.surf.size:=rfl;show ((Zh x.surf)[i]).length<=1000;omega
theorem Zgv{d:Zj}(hr:Zp d=true)(hd:Gw d)(uk:Option (List ByteArray))(hu:∀ ks,uk=some ks->Y3 ks){s:ByteArray}(hs:Rd s)(hsz:s.size<=300)(mode:Int):∀ y∈I3 (Zz d uk) mode s,y.start<=2000000/\y.surf.size<=1000:=by
 intro y hy;obtain⟨m,hm,hy⟩:=List.mem_flatMap.1 hy;have hlo:=Jg hr hd uk hu hs hsz
 have t1:1<(lat (Zz d uk) s).length:=by
  have:lat (Zz d uk) s=Nn::M6 s::(List.range (Lib.runeCount s)).flatMap (Xs (Zz d uk) s (Zh s)):=rfl;rw[this,List.length_cons,List.length_cons];omega
 have hml:=Mh (J5 (Zz d uk) mode _ hlo.2 _) _ _ t1 m hm;have e:(lat (Zz d uk) s).getD m default=(lat (Zz d uk) s)[m]:=by rw[List.getD_eq_getElem?_getD,Ge hml];rfl
 rw[e]at hy;exact Ziw (hlo.1 _ (List.getElem_mem hml)) y hy
end Go.Proofs.YtoliamijgmifkaaGreatDoor
end
namespace Go.Proofs.YtoliamijgmifkaaGreatDoor
section
open Go.RowKit
theorem Zfl(a b:Option Addr)(w:World):Calls Tryz.prog 63 #[.pointer a,.pointer b] w λe w'=>e=.returned (.pointer (some ⟨w.heap.size,0,none⟩))/\w'.heap[w.heap.size]?=some (.cells #[.string .empty,.slice none 0 0,.slice none 0 0,.pointer a,.pointer b] 136 (0,0))/\Zg w w':=by
 go_enter Tryz.func63,Tryz.ntmps63
 go_wp2_with fail
 first|go_ret|go_ret2
 exact⟨rfl,alloc_at _ _,(Fl _).alloc _⟩
end
end Go.Proofs.YtoliamijgmifkaaGreatDoor
