/- The nodes of a lattice are suc -/
import Derived.Test.YtlfoalomaofejaaGreatDoorM28
import Derived.Test.YtlfoalomaofejaaGreatDoorM27
set_option linter.all false
set_option maxRecDepth 100000
namespace Go.Proofs.YtlfoalomaofejaaGreatDoor
section
open Go.RowKit DT SS TR LT
theorem Zea{d:Zg}(q:Zl d=true)(cls:Nat):(cls≠3->(0<=zeroM.rt/\zeroM.rt<d.rows)/\(0<=zeroM.lf/\zeroM.lf<d.cols))/\(-32768<=zeroM.wt/\zeroM.wt<=32767):=by
 have h:=Vb q;refine⟨λ_=>⟨⟨by show (0:Int)<=0;omega,by show (0:Int)<d.rows;omega⟩,by show (0:Int)<=0;omega,by show (0:Int)<d.cols;omega⟩,by show (-32768:Int)<=0;omega,by show (0:Int)<=32767;omega⟩
theorem Zjd{d:Zg}(q:Zl d=true){cls id:Nat}{m:Wj}(h:M1 d cls id m):(cls≠3->(0<=m.rt/\m.rt<d.rows)/\(0<=m.lf/\m.lf<d.cols))/\(-32768<=m.wt/\m.wt<=32767):=by
 rcases h with ⟨rfl,rfl⟩|⟨rfl,hi,rfl⟩|⟨rfl,hi,rfl⟩
 ·exact Zea q 3
 ·have:=Tj q (Zw d)[id] ((Z0 _ _).mem_iff.1 (List.getElem_mem hi));exact⟨λ_=>⟨this.2.1,this.1⟩,this.2.2.1⟩
 ·have:=Lj q (Ze d)[id] ((Z0 _ _).mem_iff.1 (List.getElem_mem hi));exact⟨λ_=>⟨this.2.2.1,this.2.1⟩,this.2.2.2⟩
theorem Zeh{d:Zg}(L:Zl d=true){s:ByteArray}{ws:List ByteArray}(z:Y6 ws)(K:Rd s)(J:s.size<=300)(k:Nat)(U:k<(Zd s).length)(cls:Nat)(q:Nat->Wj)(h:∀ i,i<ws.length->M1 d cls i (q i)) :
  ∀ x∈Z7 s k (bp (Zd s) k) cls q (told ws (s.extract (bp (Zd s) k) s.size)),Zce d (Lib.runeCount s+2) x:=by
 intro x I;obtain⟨y,G,rfl⟩:=List.mem_map.1 I;obtain⟨hi,h1,h2⟩:=Pf z G;have hp:=Xa (z.plain _ (List.getElem_mem hi));obtain⟨M,a2,a3⟩:=Js K k Om hp.2.2 h2;rw[h1]at M a3;have A:=Zjd L (h y.1 hi);refine⟨?_,?_,?_,A.1,A.2⟩
 ·show k<Lib.runeCount s+2;rw[Tz];omega
 ·show Lib.validD (s.extract (bp (Zd s) k) (bp (Zd s) k+y.2)).data.toList=true;rw[a3];exact hp.2.2
 ·show (s.extract (bp (Zd s) k) (bp (Zd s) k+y.2)).size<=1000;rw[ByteArray.size_extract];omega
theorem Zhz{d:Zg}(I:Zl d=true){s:ByteArray}(G:Rd s)(A:s.size<=300)(k e:Nat)(L:k<(Zd s).length)(z:k<=e)(J:e<=(Zd s).length)(id:Nat)(h:id<(Ze d).length) :
  Zce d (Lib.runeCount s+2) (Xq s k (bp (Zd s) k) 2 (((Ze d).map Jc).getD id default) id (bp (Zd s) e-bp (Zd s) k)):=by
 have q:=Zjd I (Ev (d:=d) id h);have M:=Mx (Zd s) z;refine⟨?_,?_,?_,q.1,q.2⟩
 ·show k<Lib.runeCount s+2;rw[Tz];omega
 ·show Lib.validD (s.extract (bp (Zd s) k) (bp (Zd s) k+(bp (Zd s) e-bp (Zd s) k))).data.toList=true;rw[(Om:bp (Zd s) k+(bp (Zd s) e-bp (Zd s) k)=bp (Zd s) e),Cu s k e z];exact UC.good_valid _ (λc K=>(G c (List.mem_of_mem_drop (List.mem_of_mem_take K))).1)
 ·show (s.extract (bp (Zd s) k) (bp (Zd s) k+(bp (Zd s) e-bp (Zd s) k))).size<=1000;rw[ByteArray.size_extract];omega
theorem Zjj{d:Zg}(A:Zl d=true)(hd:Hr d)(q:Option (List ByteArray))(K:∀ ks,q=some ks->Y6 ks){s:ByteArray}(J:Rd s)(z:s.size<=300):∀ x∈lat (Z3 d q) s,Zce d (Lib.runeCount s+2) x:=by
 intro x h;have I:=Zea A 0;unfold lat Ua at h;rcases List.mem_cons.1 h with rfl|h
 ·exact⟨by show 0<Lib.runeCount s+2;omega,rfl,by show ByteArray.empty.size<=1000;decide,I.1,I.2⟩
 rcases List.mem_cons.1 h with rfl|h
 ·exact⟨by show Lib.runeCount s<Lib.runeCount s+2;omega,rfl,by show ByteArray.empty.size<=1000;decide,I.1,I.2⟩
 obtain⟨k,G,h⟩:=List.mem_flatMap.1 h;have G:k<(Zd s).length:=by rw[<- Tz];exact List.mem_range.1 G
 have known:∀ x∈Vl (Z3 d q) s k (bp (Zd s) k),Zce d (Lib.runeCount s+2) x:=λx h=>by
  rw[<- Fi]at h;exact Zeh A (Oa A hd) J z k G 1 _ (λi hi=>Fj i hi) x h
 have user:∀ x∈Us (Z3 d q) s k (bp (Zd s) k),Zce d (Lib.runeCount s+2) x:=λx h=>by
  cases q with
  | none=>cases h
  | some ks =>
   rw[<- Bs]at h;exact Zeh A (K ks rfl) J z k G 3 _ (λi _=>.inl ⟨rfl,rfl⟩) x h
 have unk:∀ x∈Oy (Z3 d q) s (Zd s) k,Zce d (Lib.runeCount s+2) x:=λx h=>by
  have L:=(Me A q _ (Hi A q (Xi ((Zd s).getD k [])))).2.2
  have M:k+1<=Vg (Z3 d q) (Zd s) k/\Vg (Z3 d q) (Zd s) k<=(Zd s).length:=by
   unfold Vg;simp only;have:=Od (Z3 d q).cat ((Z3 d q).cat (Xi ((Zd s).getD k []))) 1023 ((Zd s).drop (k+1));rw[List.length_drop]at this
   split<;>omega
  obtain⟨i,hi,h⟩:=List.mem_flatMap.1 h;have hi:=List.mem_range.1 hi;rcases List.mem_append.1 h with h|h
  ·split at h
   ·rw[List.mem_singleton.1 h];exact Zhz A J z k (Vg (Z3 d q) (Zd s) k-1) G Om Om _ Om
   ·cases h
  ·rw[List.mem_singleton.1 h];exact Zhz A J z k (Vg (Z3 d q) (Zd s) k) G Om Om _ Om
 unfold Xu at h
 split at h
 ·rcases List.mem_append.1 h with h|h
  ·exact known x h
  ·split at h
   ·exact unk x h
   ·cases h
 ·exact user x h
end
end Go.Proofs.YtlfoalomaofejaaGreatDoor
section
namespace LT
open Go Go.Lib UC
structure Y0 where
 index:Nat
 id:Int
 cls:Nat
 pos:Nat
 start:Nat
 fin:Nat
 surf:ByteArray
deriving Inhabited
def Zot:ByteArray:=⟨#[66,79,83]⟩
def Zor:ByteArray:=⟨#[69,79,83]⟩
def Qt(q:Bool)(i:Nat)(h:List Y0)(x:Nd):List Y0 :=
 if q=true/\x.id = -1 then h else h++[⟨h.length,x.id,x.cls,x.pos,x.start,x.start+runeCount x.surf,if x.id = -1 then (if i=0 then Zot else Zor) else x.surf⟩]
def Vn(h:Bool)(l:List Nd):Nat->List Y0
 | 0=>[]
 | i+1=>Qt h i (Vn h l i) (l.getD i default)
theorem L7(h:Bool)(l:List Nd):∀ i,(Vn h l i).length<=i
 | 0=>by simp[Vn]
 | i+1=>by
  have:=L7 h l i;unfold Vn Qt
  split
  ·omega
  ·rw[List.length_append,List.length_singleton];omega
def Rm(h:Int):Int:=if h=2 then 2 else if h=3 then 3 else 1
def Lp(D:Dk)(h:Int)(s:ByteArray):List Nd:=(Tc (lat D s) (Vy D h (lat D s) (runeCount s+2)).prev (some 1)).flatMap λm=>Xf h ((lat D s).getD m default)
def Ww(D:Dk)(q:Bool)(h:Int)(s:ByteArray):List Y0:=Vn q (Lp D h s).reverse (Lp D h s).length
theorem Xs.all{D:Dk}{q:Int}{ns:List Nd}{t:Nat}:∀ (l:List Nat) (st:St) (f:Bool),Xs st->Xs (Vi D q ns t st f l)
 | [],_,_,h=>h
 | _::l,_,_,h=>Xs.all l _ false h.relax
theorem Xs.node{D:Dk}{q:Int}{ns:List Nd}{st:St}(h:Xs st)(t:Nat):Xs (Wl D q ns st t):=by
 unfold Wl
 split
 ·exact h.up t _ _ (by unfold Vq;omega)
 ·exact Xs.all _ _ _ h
theorem Xs.row{D:Dk}{q:Int}{ns:List Nd}:∀ (l:List Nat) (st:St),Xs st->Xs (l.foldl (Wl D q ns) st)
 | [],_,h=>h
 | a::l,_,h=>Xs.row l _ (h.node a)
theorem Fz(D:Dk)(h:Int)(ns:List Nd):∀ p,Xs (Vy D h ns p)
 | 0=>λt=>⟨by show (-2147483648:Int)<=0;omega,by show (0:Int)<=2147483647;omega⟩
 | p+1=>by
  show Xs (if p=0 then _ else _)
  split
  ·exact λt=>⟨by show (-2147483648:Int)<=0;omega,by show (0:Int)<=2147483647;omega⟩
  ·exact Xs.row _ _ (Fz D h ns p)
theorem Dj(D:Dk)(s:ByteArray):(row (lat D s) (runeCount s+2-1))[0]?=some 1:=by
 have e:lat D s=Qz::Ot s::(List.range (runeCount s)).flatMap (Xu D s (Zd s)):=rfl;unfold row;rw[e];generalize (List.range (runeCount s)).flatMap (Xu D s (Zd s))=l
 have r:List.range (Qz::Ot s::l).length=0::1::(List.range l.length).map (· + 2):=by
  rw[List.length_cons,List.length_cons,List.range_succ_eq_map,List.range_succ_eq_map];simp
 rw[r,List.filter_cons,List.filter_cons]
 have h:(((Qz::Ot s::l).getD 0 default).fin==runeCount s+2-1)=false:=by
  show ((0:Nat)==runeCount s+2-1)=false;simp
 have h1:(((Qz::Ot s::l).getD 1 default).fin==runeCount s+2-1)=true:=by
  show (runeCount s+1==runeCount s+2-1)=true;simp
 rw[h,h1];rfl
end LT
namespace Go.Proofs.YtlfoalomaofejaaGreatDoor
open Go.RowKit DT SS TR LT
theorem Zni{s:ByteArray}(z:Lib.validD s.data.toList=true)(h:s≠ByteArray.empty):1<=Lib.runeCount s:=by
 rw[UC.count_chunk];have q:s.data.toList≠[]:=λe=>h (ByteArray.ext (Array.toList_inj.1 e))
 rw[UC.chunk_step _ q];simp
structure Ed(s:ByteArray)(x:Nd):Prop where
 up:x.start<x.fin
 pos:x.pos<=s.size
 start:x.start<=s.size
 id:-1<=x.id/\x.id<=1000000
theorem Zeg{s:ByteArray}{ws:List ByteArray}(h:Y6 ws)(G:Rd s)(k:Nat)(K:k<(Zd s).length)(cls:Nat)(q:Nat->Wj) :
  ∀ x∈Z7 s k (bp (Zd s) k) cls q (told ws (s.extract (bp (Zd s) k) s.size)),Ed s x:=by
 intro x A;obtain⟨y,z,rfl⟩:=List.mem_map.1 A;obtain⟨hi,h1,h2⟩:=Pf h z;have hp:=Xa (h.plain _ (List.getElem_mem hi));obtain⟨J,a2,a3⟩:=Js G k Om hp.2.2 h2;rw[h1]at J a3;have I:=Lib.runeCount_le s;rw[Tz]at I;have hl:=h.len;refine⟨?_,My s k,by show k<=s.size;omega,by show -1<=(y.1:Int)/\(y.1:Int)<=1000000;omega⟩;show k<k+Lib.runeCount (s.extract (bp (Zd s) k) (bp (Zd s) k+y.2));rw[a3];have:=Zni hp.2.2 hp.2.1;omega
theorem Zhy{s:ByteArray}(q:Rd s)(k e:Nat)(G:k<(Zd s).length)(I:k<e)(h:e<=(Zd s).length)(m:Wj)(id:Nat)(A:id<=1000000) :
  Ed s (Xq s k (bp (Zd s) k) 2 m id (bp (Zd s) e-bp (Zd s) k)):=by
 have z:=Lib.runeCount_le s;rw[Tz]at z;have J:=Mx (Zd s) ((Om:k<=e));refine⟨?_,My s k,by show k<=s.size;omega,by show -1<=(id:Int)/\(id:Int)<=1000000;omega⟩;show k<k+Lib.runeCount (s.extract (bp (Zd s) k) (bp (Zd s) k+(bp (Zd s) e-bp (Zd s) k)));rw[(Om:bp (Zd s) k+(bp (Zd s) e-bp (Zd s) k)=bp (Zd s) e),Hc q k e Om h];omega
theorem Zjk{d:Zg}(I:Zl d=true)(hd:Hr d)(q:Option (List ByteArray))(K:∀ ks,q=some ks->Y6 ks){s:ByteArray}(A:Rd s):∀ x∈lat (Z3 d q) s,x=Qz\/Ed s x:=by
 intro x h;have G:=Lib.runeCount_le s;unfold lat Ua at h;rcases List.mem_cons.1 h with rfl|h
 ·exact .inl rfl
 right;rcases List.mem_cons.1 h with rfl|h
 ·exact⟨by show Lib.runeCount s<Lib.runeCount s+1;omega,by show s.size<=s.size;omega,G,by show (-1:Int) <= -1/\(-1:Int)<=1000000;omega⟩
 obtain⟨k,z,h⟩:=List.mem_flatMap.1 h;have z:k<(Zd s).length:=by rw[<- Tz];exact List.mem_range.1 z
 have known:∀ x∈Vl (Z3 d q) s k (bp (Zd s) k),Ed s x:=λx h=>by
  rw[<- Fi]at h;exact Zeg (Oa I hd) A k z 1 _ x h
 have user:∀ x∈Us (Z3 d q) s k (bp (Zd s) k),Ed s x:=λx h=>by
  cases q with
  | none=>cases h
  | some ks =>
   rw[<- Bs]at h;exact Zeg (K ks rfl) A k z 3 _ x h
 have unk:∀ x∈Oy (Z3 d q) s (Zd s) k,Ed s x:=λx h=>by
  have L:=(Me I q _ (Hi I q (Xi ((Zd s).getD k [])))).2.2;have J:=hd.unk;rw[Wo]at L
  have M:k+1<=Vg (Z3 d q) (Zd s) k/\Vg (Z3 d q) (Zd s) k<=(Zd s).length:=by
   unfold Vg;simp only;have:=Od (Z3 d q).cat ((Z3 d q).cat (Xi ((Zd s).getD k []))) 1023 ((Zd s).drop (k+1));rw[List.length_drop]at this
   split<;>omega
  obtain⟨i,hi,h⟩:=List.mem_flatMap.1 h;have hi:=List.mem_range.1 hi;rcases List.mem_append.1 h with h|h
  ·split at h
   ·rw[List.mem_singleton.1 h];exact Zhy A k (Vg (Z3 d q) (Zd s) k-1) z Om Om _ _ Om
   ·cases h
  ·rw[List.mem_singleton.1 h];exact Zhy A k (Vg (Z3 d q) (Zd s) k) z Om Om _ _ Om
 unfold Xu at h
 split at h
 ·rcases List.mem_append.1 h with h|h
  ·exact known x h
  ·split at h
   ·exact unk x h
   ·cases h
 ·exact user x h
theorem Ml{d:Zg}(J:Zl d=true)(hd:Hr d)(q:Option (List ByteArray))(A:∀ ks,q=some ks->Y6 ks){s:ByteArray}(I:Rd s)(G:s.size<=300):(∀ x∈lat (Z3 d q) s,Zkz x)/\(∀ x∈lat (Z3 d q) s,1<=x.fin->x.start<x.fin):=by
 refine⟨λx z=>?_,λx z h1=>?_⟩
 ·have h:=Zjj J hd q A I G x z;rcases Zjk J hd q A I x z with rfl|h2
  ·exact⟨h.valid,h.size,by show 0<=1000000;omega,by show 0<=1000000;omega,by show (-1:Int) <= -1/\(-1:Int)<=1000000;omega⟩
  ·exact⟨h.valid,h.size,by have:=h2.pos;omega,by have:=h2.start;omega,h2.id⟩
 ·rcases Zjk J hd q A I x z with rfl|h2
  ·exact absurd h1 (by show ¬ 1<=0;omega)
  ·exact h2.up
theorem Zgw{q:Int}{x:Nd}(h:Zkz x):∀ y∈Xf q x,y.start<=2000000/\y.surf.size<=1000:=by
 intro y z;have G:=h.size;have h1:=h.start;unfold Xf at z
 split at z
 ·rw[List.mem_singleton.1 z];omega
 ·rw[List.mem_reverse]at z;obtain⟨i,hi,rfl⟩:=List.mem_map.1 z;have hi:=List.mem_range.1 hi;have A:=Lib.runeCount_le x.surf;rw[Tz]at A;refine⟨by show x.start+i<=2000000;omega,?_⟩;show ((Zd x.surf).getD i []).toArray.size<=1000;rw[List.getD_eq_getElem?_getD,Ge hi]
  have h2:((Zd x.surf)[i]).length<=x.surf.data.size:=by
   rw[<- Array.length_toList,<- T2];exact (List.sublist_flatten_of_mem (List.getElem_mem hi)).length_le
  have:x.surf.data.size=x.surf.size:=rfl;show ((Zd x.surf)[i]).length<=1000;omega
theorem Zeu{d:Zg}(M:Zl d=true)(hd:Hr d)(h:Option (List ByteArray))(K:∀ ks,h=some ks->Y6 ks){s:ByteArray}(L:Rd s)(I:s.size<=300)(q:Int):∀ y∈Lp (Z3 d h) q s,y.start<=2000000/\y.surf.size<=1000:=by
 intro y G;obtain⟨m,U,G⟩:=List.mem_flatMap.1 G;have A:=Ml M hd h K L I
 have J:1<(lat (Z3 d h) s).length:=by
  have:lat (Z3 d h) s=Qz::Ot s::(List.range (Lib.runeCount s)).flatMap (Xu (Z3 d h) s (Zd s)):=rfl;rw[this,List.length_cons,List.length_cons];omega
 have z:=P3 (Ms (Z3 d h) q _ A.2 _) _ _ J m U;have e:(lat (Z3 d h) s).getD m default=(lat (Z3 d h) s)[m]:=by rw[List.getD_eq_getElem?_getD,Ge z];rfl
 rw[e]at G;exact Zgw (A.1 _ (List.getElem_mem z)) y G
end Go.Proofs.YtlfoalomaofejaaGreatDoor
end
namespace Go.Proofs.YtlfoalomaofejaaGreatDoor
section
open Go.RowKit
theorem Zdi(a b:Option Addr)(w:World):Calls Tryz.prog 157 #[.pointer a,.pointer b] w λe w'=>e=.returned (.pointer (some ⟨w.heap.size,0,none⟩))/\w'.heap[w.heap.size]?=some (.cells #[.string .empty,.slice none 0 0,.slice none 0 0,.pointer a,.pointer b] 300 (0,0))/\Zf w w':=by
 go_enter Tryz.func157,Tryz.ntmps157
 go_wp2_with fail
 first|go_ret|go_ret2
 exact⟨rfl,alloc_at _ _,(Fl _).alloc _⟩
end
end Go.Proofs.YtlfoalomaofejaaGreatDoor
