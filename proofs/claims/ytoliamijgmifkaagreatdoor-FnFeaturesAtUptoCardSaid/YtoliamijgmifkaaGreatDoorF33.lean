/- The nodes of a lattice are such as Forward asks. · The tokens of a text in plain Lean; the nodes of  -/
import Derived.Test.YtoliamijgmifkaaGreatDoorF32
import Derived.Test.YtoliamijgmifkaaGreatDoorF31
set_option linter.all false
set_option maxRecDepth 100000
namespace Go.Proofs.YtoliamijgmifkaaGreatDoor
section
open Go.RowKit DT SS TR LT
theorem Za5{d:Zf}(hr:Zk d=true)(cls:Nat):(cls≠3->(0<=zeroM.rt/\zeroM.rt<d.rows)/\(0<=zeroM.lf/\zeroM.lf<d.cols))/\(-32768<=zeroM.wt/\zeroM.wt<=32767):=by
 have h:=Wo hr;refine⟨fun _=>⟨⟨by show (0:Int)<=0;omega,by show (0:Int)<d.rows;omega⟩,by show (0:Int)<=0;omega,by show (0:Int)<d.cols;omega⟩,by show (-32768:Int)<=0;omega,by show (0:Int)<=32767;omega⟩
theorem Zfy{d:Zf}(hr:Zk d=true){cls id:Nat}{m:Xy}(h:Nm d cls id m):(cls≠3->(0<=m.rt/\m.rt<d.rows)/\(0<=m.lf/\m.lf<d.cols))/\(-32768<=m.wt/\m.wt<=32767):=by
 rcases h with ⟨rfl,rfl⟩|⟨rfl,hi,rfl⟩|⟨rfl,hi,rfl⟩
 ·exact Za5 hr 3
 ·have:=Uz hr (Zr d)[id] ((Zw _ _).mem_iff.1 (List.getElem_mem hi));exact⟨fun _=>⟨this.2.1,this.1⟩,this.2.2.1⟩
 ·have:=N5 hr (Ze d)[id] ((Zw _ _).mem_iff.1 (List.getElem_mem hi));exact⟨fun _=>⟨this.2.2.1,this.2.1⟩,this.2.2.2⟩
theorem Zbb{d:Zf}(hr:Zk d=true){s:ByteArray}{ws:List ByteArray}(hw:Yt ws)(hs:Rd s)(hsz:s.size<=300)(k:Nat)(hk:k<(Zd s).length)(cls:Nat)(mo:Nat->Xy)(hmo:∀ i,i<ws.length->Nm d cls i (mo i)) :
  ∀ x∈Z3 s k (bp (Zd s) k) cls mo (told ws (s.extract (bp (Zd s) k) s.size)),Bg d (Lib.runeCount s+2) x:=by
 intro x hx;obtain⟨y,hy,rfl⟩:=List.mem_map.1 hx;obtain⟨hi,h1,h2⟩:=Qg hw hy;have hp:=Yz (hw.plain _ (List.getElem_mem hi));obtain⟨a1,a2,a3⟩:=Lu hs k (by omega) hp.2.2 h2;rw[h1]at a1 a3;have hm:=Zfy hr (hmo y.1 hi);refine⟨?_,?_,?_,hm.1,hm.2⟩
 ·show k<Lib.runeCount s+2;rw[Th];omega
 ·show Lib.validD (s.extract (bp (Zd s) k) (bp (Zd s) k+y.2)).data.toList=true;rw[a3];exact hp.2.2
 ·show (s.extract (bp (Zd s) k) (bp (Zd s) k+y.2)).size<=1000;rw[ByteArray.size_extract];omega
theorem Zem{d:Zf}(hr:Zk d=true){s:ByteArray}(hs:Rd s)(hsz:s.size<=300)(k e:Nat)(hk:k<(Zd s).length)(he:k<=e)(he2:e<=(Zd s).length)(id:Nat)(hid:id<(Ze d).length) :
  Bg d (Lib.runeCount s+2) (Xc s k (bp (Zd s) k) 2 (((Ze d).map Lh).getD id default) id (bp (Zd s) e-bp (Zd s) k)):=by
 have hm:=Zfy hr (Hn (d:=d) id hid);have hb:=Ni (Zd s) he;refine⟨?_,?_,?_,hm.1,hm.2⟩
 ·show k<Lib.runeCount s+2;rw[Th];omega
 ·show Lib.validD (s.extract (bp (Zd s) k) (bp (Zd s) k+(bp (Zd s) e-bp (Zd s) k))).data.toList=true;rw[show bp (Zd s) k+(bp (Zd s) e-bp (Zd s) k)=bp (Zd s) e by omega,Fa s k e he];exact UC.good_valid _ (fun c hc=>(hs c (List.mem_of_mem_drop (List.mem_of_mem_take hc))).1)
 ·show (s.extract (bp (Zd s) k) (bp (Zd s) k+(bp (Zd s) e-bp (Zd s) k))).size<=1000;rw[ByteArray.size_extract];omega
theorem Zf0{d:Zf}(hr:Zk d=true)(hd:DOk d)(uk:Option (List ByteArray))(hu:∀ ks,uk=some ks->Yt ks){s:ByteArray}(hs:Rd s)(hsz:s.size<=300):∀ x∈lat (Zu d uk) s,Bg d (Lib.runeCount s+2) x:=by
 intro x hx;have hz:=Za5 hr 0;unfold lat Vu at hx;rcases List.mem_cons.1 hx with rfl|hx
 ·exact⟨by show 0<Lib.runeCount s+2;omega,rfl,by show ByteArray.empty.size<=1000;decide,hz.1,hz.2⟩
 rcases List.mem_cons.1 hx with rfl|hx
 ·exact⟨by show Lib.runeCount s<Lib.runeCount s+2;omega,rfl,by show ByteArray.empty.size<=1000;decide,hz.1,hz.2⟩
 obtain⟨k,hk,hx⟩:=List.mem_flatMap.1 hx;have hk:k<(Zd s).length:=by rw[<- Th];exact List.mem_range.1 hk
 have known:∀ x∈Ww (Zu d uk) s k (bp (Zd s) k),Bg d (Lib.runeCount s+2) x:=fun x hx=>by
  rw[<- Ir]at hx;exact Zbb hr (Q6 hr hd) hs hsz k hk 1 _ (fun i hi=>It i hi) x hx
 have user:∀ x∈V7 (Zu d uk) s k (bp (Zd s) k),Bg d (Lib.runeCount s+2) x:=fun x hx=>by
  cases uk with
  | none=>cases hx
  | some ks =>
   rw[<- Fz]at hx;exact Zbb hr (hu ks rfl) hs hsz k hk 3 _ (fun i _=>.inl ⟨rfl,rfl⟩) x hx
 have unk:∀ x∈Pp (Zu d uk) s (Zd s) k,Bg d (Lib.runeCount s+2) x:=fun x hx=>by
  have hm:=(Ou hr uk _ (Jg hr uk (Y4 ((Zd s).getD k [])))).2.2
  have he:k+1<=Ws (Zu d uk) (Zd s) k/\Ws (Zu d uk) (Zd s) k<=(Zd s).length:=by
   unfold Ws;simp only;have:=Q8 (Zu d uk).cat ((Zu d uk).cat (Y4 ((Zd s).getD k []))) 1023 ((Zd s).drop (k+1));rw[List.length_drop]at this
   split <;> omega
  obtain⟨i,hi,hx⟩:=List.mem_flatMap.1 hx;have hi:=List.mem_range.1 hi;rcases List.mem_append.1 hx with hx|hx
  ·split at hx
   ·rw[List.mem_singleton.1 hx];exact Zem hr hs hsz k (Ws (Zu d uk) (Zd s) k-1) hk (by omega) (by omega) _ (by omega)
   ·cases hx
  ·rw[List.mem_singleton.1 hx];exact Zem hr hs hsz k (Ws (Zu d uk) (Zd s) k) hk (by omega) (by omega) _ (by omega)
 unfold Xe at hx
 split at hx
 ·rcases List.mem_append.1 hx with hx|hx
  ·exact known x hx
  ·split at hx
   ·exact unk x hx
   ·cases hx
 ·exact user x hx
end
end Go.Proofs.YtoliamijgmifkaaGreatDoor
section
namespace LT
open Go Go.Lib UC
structure Yn where
 index:Nat
 id:Int
 cls:Nat
 pos:Nat
 start:Nat
 fin:Nat
 surf:ByteArray
deriving Inhabited
def Zkl:ByteArray:=⟨#[66,79,83]⟩
def Zkj:ByteArray:=⟨#[69,79,83]⟩
def R6(om:Bool)(i:Nat)(acc:List Yn)(x:Nd):List Yn :=
 if om=true/\x.id = -1 then acc else acc++[⟨acc.length,x.id,x.cls,x.pos,x.start,x.start+runeCount x.surf,if x.id = -1 then (if i=0 then Zkl else Zkj) else x.surf⟩]
def Wy(om:Bool)(l:List Nd):Nat->List Yn
 | 0=>[]
 | i+1=>R6 om i (Wy om l i) (l.getD i default)
theorem Mq(om:Bool)(l:List Nd):∀ i,(Wy om l i).length<=i
 | 0=>by simp[Wy]
 | i+1=>by
  have:=Mq om l i;unfold Wy R6
  split
  ·omega
  ·rw[List.length_append,List.length_singleton];omega
def Uc(mode:Int):Int:=if mode=2 then 2 else if mode=3 then 3 else 1
def Mb(D:Dk)(mode:Int)(s:ByteArray):List Nd:=(Ur (lat D s) (Vj D mode (lat D s) (runeCount s+2)).prev (some 1)).flatMap fun m=>Y2 mode ((lat D s).getD m default)
def Y3(D:Dk)(om:Bool)(mode:Int)(s:ByteArray):List Yn:=Wy om (Mb D mode s).reverse (Mb D mode s).length
theorem Xd.all{D:Dk}{mode:Int}{ns:List Nd}{t:Nat}:∀ (l:List Nat) (st:St) (f:Bool),Xd st->Xd (Wt D mode ns t st f l)
 | [],_,_,h=>h
 | _::l,_,_,h=>Xd.all l _ false h.relax
theorem Xd.node{D:Dk}{mode:Int}{ns:List Nd}{st:St}(h:Xd st)(t:Nat):Xd (Wb D mode ns st t):=by
 unfold Wb
 split
 ·exact h.up t _ _ (by unfold Vb;omega)
 ·exact Xd.all _ _ _ h
theorem Xd.row{D:Dk}{mode:Int}{ns:List Nd}:∀ (l:List Nat) (st:St),Xd st->Xd (l.foldl (Wb D mode ns) st)
 | [],_,h=>h
 | a::l,_,h=>Xd.row l _ (h.node a)
theorem I4(D:Dk)(mode:Int)(ns:List Nd):∀ p,Xd (Vj D mode ns p)
 | 0=>fun t=>⟨by show (-2147483648:Int)<=0;omega,by show (0:Int)<=2147483647;omega⟩
 | p+1=>by
  show Xd (if p=0 then _ else _)
  split
  ·exact fun t=>⟨by show (-2147483648:Int)<=0;omega,by show (0:Int)<=2147483647;omega⟩
  ·exact Xd.row _ _ (I4 D mode ns p)
theorem Gd(D:Dk)(s:ByteArray):(row (lat D s) (runeCount s+2-1))[0]? = some 1:=by
 have e:lat D s=Qc::Pj s::(List.range (runeCount s)).flatMap (Xe D s (Zd s)):=rfl;unfold row;rw[e];generalize (List.range (runeCount s)).flatMap (Xe D s (Zd s))=l
 have r:List.range (Qc::Pj s::l).length=0::1::(List.range l.length).map (· + 2):=by
  rw[List.length_cons,List.length_cons,List.range_succ_eq_map,List.range_succ_eq_map];simp
 rw[r,List.filter_cons,List.filter_cons]
 have h0:(((Qc::Pj s::l).getD 0 default).fin==runeCount s+2-1)=false:=by
  show ((0:Nat)==runeCount s+2-1)=false;simp
 have h1:(((Qc::Pj s::l).getD 1 default).fin==runeCount s+2-1)=true:=by
  show (runeCount s+1==runeCount s+2-1)=true;simp
 rw[h0,h1];rfl
end LT
namespace Go.Proofs.YtoliamijgmifkaaGreatDoor
open Go.RowKit DT SS TR LT
theorem Zjo{s:ByteArray}(hv:Lib.validD s.data.toList=true)(hne:s≠ByteArray.empty):1<=Lib.runeCount s:=by
 rw[UC.count_chunk];have hn:s.data.toList≠[]:=fun e=>hne (ByteArray.ext (Array.toList_inj.1 e))
 rw[UC.chunk_step _ hn];simp
structure Ha(s:ByteArray)(x:Nd):Prop where
 up:x.start<x.fin
 pos:x.pos<=s.size
 start:x.start<=s.size
 id:-1<=x.id/\x.id<=1000000
theorem Zba{s:ByteArray}{ws:List ByteArray}(hw:Yt ws)(hs:Rd s)(k:Nat)(hk:k<(Zd s).length)(cls:Nat)(mo:Nat->Xy) :
  ∀ x∈Z3 s k (bp (Zd s) k) cls mo (told ws (s.extract (bp (Zd s) k) s.size)),Ha s x:=by
 intro x hx;obtain⟨y,hy,rfl⟩:=List.mem_map.1 hx;obtain⟨hi,h1,h2⟩:=Qg hw hy;have hp:=Yz (hw.plain _ (List.getElem_mem hi));obtain⟨a1,a2,a3⟩:=Lu hs k (by omega) hp.2.2 h2;rw[h1]at a1 a3;have hr:=Lib.runeCount_le s;rw[Th]at hr;have hl:=hw.len;refine⟨?_,Nj s k,by show k<=s.size;omega,by show -1<=(y.1:Int)/\(y.1:Int)<=1000000;omega⟩;show k<k+Lib.runeCount (s.extract (bp (Zd s) k) (bp (Zd s) k+y.2));rw[a3];have:=Zjo hp.2.2 hp.2.1;omega
theorem Zel{s:ByteArray}(hs:Rd s)(k e:Nat)(hk:k<(Zd s).length)(he:k<e)(he2:e<=(Zd s).length)(m:Xy)(id:Nat)(hid:id<=1000000) :
  Ha s (Xc s k (bp (Zd s) k) 2 m id (bp (Zd s) e-bp (Zd s) k)):=by
 have hr:=Lib.runeCount_le s;rw[Th]at hr;have hb:=Ni (Zd s) (show k<=e by omega);refine⟨?_,Nj s k,by show k<=s.size;omega,by show -1<=(id:Int)/\(id:Int)<=1000000;omega⟩;show k<k+Lib.runeCount (s.extract (bp (Zd s) k) (bp (Zd s) k+(bp (Zd s) e-bp (Zd s) k)));rw[show bp (Zd s) k+(bp (Zd s) e-bp (Zd s) k)=bp (Zd s) e by omega,Jb hs k e (by omega) he2];omega
theorem Zf1{d:Zf}(hr:Zk d=true)(hd:DOk d)(uk:Option (List ByteArray))(hu:∀ ks,uk=some ks->Yt ks){s:ByteArray}(hs:Rd s):∀ x∈lat (Zu d uk) s,x=Qc\/Ha s x:=by
 intro x hx;have hrc:=Lib.runeCount_le s;unfold lat Vu at hx;rcases List.mem_cons.1 hx with rfl|hx
 ·exact .inl rfl
 right;rcases List.mem_cons.1 hx with rfl|hx
 ·exact⟨by show Lib.runeCount s<Lib.runeCount s+1;omega,by show s.size<=s.size;omega,hrc,by show (-1:Int) <= -1/\(-1:Int)<=1000000;omega⟩
 obtain⟨k,hk,hx⟩:=List.mem_flatMap.1 hx;have hk:k<(Zd s).length:=by rw[<- Th];exact List.mem_range.1 hk
 have known:∀ x∈Ww (Zu d uk) s k (bp (Zd s) k),Ha s x:=fun x hx=>by
  rw[<- Ir]at hx;exact Zba (Q6 hr hd) hs k hk 1 _ x hx
 have user:∀ x∈V7 (Zu d uk) s k (bp (Zd s) k),Ha s x:=fun x hx=>by
  cases uk with
  | none=>cases hx
  | some ks =>
   rw[<- Fz]at hx;exact Zba (hu ks rfl) hs k hk 3 _ x hx
 have unk:∀ x∈Pp (Zu d uk) s (Zd s) k,Ha s x:=fun x hx=>by
  have hm:=(Ou hr uk _ (Jg hr uk (Y4 ((Zd s).getD k [])))).2.2;have hul:=hd.unk;rw[We]at hm
  have he:k+1<=Ws (Zu d uk) (Zd s) k/\Ws (Zu d uk) (Zd s) k<=(Zd s).length:=by
   unfold Ws;simp only;have:=Q8 (Zu d uk).cat ((Zu d uk).cat (Y4 ((Zd s).getD k []))) 1023 ((Zd s).drop (k+1));rw[List.length_drop]at this
   split <;> omega
  obtain⟨i,hi,hx⟩:=List.mem_flatMap.1 hx;have hi:=List.mem_range.1 hi;rcases List.mem_append.1 hx with hx|hx
  ·split at hx
   ·rw[List.mem_singleton.1 hx];exact Zel hs k (Ws (Zu d uk) (Zd s) k-1) hk (by omega) (by omega) _ _ (by omega)
   ·cases hx
  ·rw[List.mem_singleton.1 hx];exact Zel hs k (Ws (Zu d uk) (Zd s) k) hk (by omega) (by omega) _ _ (by omega)
 unfold Xe at hx
 split at hx
 ·rcases List.mem_append.1 hx with hx|hx
  ·exact known x hx
  ·split at hx
   ·exact unk x hx
   ·cases hx
 ·exact user x hx
theorem Ox{d:Zf}(hr:Zk d=true)(hd:DOk d)(uk:Option (List ByteArray))(hu:∀ ks,uk=some ks->Yt ks){s:ByteArray}(hs:Rd s)(hsz:s.size<=300):(∀ x∈lat (Zu d uk) s,Zhg x)/\(∀ x∈lat (Zu d uk) s,1<=x.fin->x.start<x.fin):=by
 refine⟨fun x hx=>?_,fun x hx h1=>?_⟩
 ·have h:=Zf0 hr hd uk hu hs hsz x hx;rcases Zf1 hr hd uk hu hs x hx with rfl|h2
  ·exact⟨h.valid,h.size,by show 0<=1000000;omega,by show 0<=1000000;omega,by show (-1:Int) <= -1/\(-1:Int)<=1000000;omega⟩
  ·exact⟨h.valid,h.size,by have:=h2.pos;omega,by have:=h2.start;omega,h2.id⟩
 ·rcases Zf1 hr hd uk hu hs x hx with rfl|h2
  ·exact absurd h1 (by show ¬ 1<=0;omega)
  ·exact h2.up
theorem Zdk{mode:Int}{x:Nd}(h:Zhg x):∀ y∈Y2 mode x,y.start<=2000000/\y.surf.size<=1000:=by
 intro y hy;have hs:=h.size;have h1:=h.start;unfold Y2 at hy
 split at hy
 ·rw[List.mem_singleton.1 hy];omega
 ·rw[List.mem_reverse]at hy;obtain⟨i,hi,rfl⟩:=List.mem_map.1 hy;have hi:=List.mem_range.1 hi;have hr:=Lib.runeCount_le x.surf;rw[Th]at hr;refine⟨by show x.start+i<=2000000;omega,?_⟩;show ((Zd x.surf).getD i []).toArray.size<=1000;rw[List.getD_eq_getElem?_getD,List.getElem?_eq_getElem hi]
  have h2:((Zd x.surf)[i]).length<=x.surf.data.size:=by
   rw[<- Array.length_toList,<- Ti];exact (List.sublist_flatten_of_mem (List.getElem_mem hi)).length_le
  have:x.surf.data.size=x.surf.size:=rfl;show ((Zd x.surf)[i]).length<=1000;omega
theorem Zbl{d:Zf}(hr:Zk d=true)(hd:DOk d)(uk:Option (List ByteArray))(hu:∀ ks,uk=some ks->Yt ks){s:ByteArray}(hs:Rd s)(hsz:s.size<=300)(mode:Int):∀ y∈Mb (Zu d uk) mode s,y.start<=2000000/\y.surf.size<=1000:=by
 intro y hy;obtain⟨m,hm,hy⟩:=List.mem_flatMap.1 hy;have hlo:=Ox hr hd uk hu hs hsz
 have t1:1<(lat (Zu d uk) s).length:=by
  have:lat (Zu d uk) s=Qc::Pj s::(List.range (Lib.runeCount s)).flatMap (Xe (Zu d uk) s (Zd s)):=rfl;rw[this,List.length_cons,List.length_cons];omega
 have hml:=Qy (Nb (Zu d uk) mode _ hlo.2 _) _ _ t1 m hm;have e:(lat (Zu d uk) s).getD m default=(lat (Zu d uk) s)[m]:=by rw[List.getD_eq_getElem?_getD,List.getElem?_eq_getElem hml];rfl
 rw[e]at hy;exact Zdk (hlo.1 _ (List.getElem_mem hml)) y hy
end Go.Proofs.YtoliamijgmifkaaGreatDoor
end
namespace Go.Proofs.YtoliamijgmifkaaGreatDoor
section
open Go.RowKit
theorem Zad(a b:Option Addr)(w:World):Calls Tryz.prog 63 #[.pointer a,.pointer b] w fun e w'=>e = .returned (.pointer (some ⟨w.heap.size,0,none⟩))/\w'.heap[w.heap.size]? = some (.cells #[.string .empty,.slice none 0 0,.slice none 0 0,.pointer a,.pointer b] 136 (0,0))/\Ext w w':=by
 go_enter Tryz.func63,Tryz.ntmps63
 go_wp2_with fail
 first|go_ret|go_ret2
 exact⟨rfl,alloc_at _ _,(Fr.refl _ _).alloc _⟩
end
end Go.Proofs.YtoliamijgmifkaaGreatDoor
