/- The exchange of two runs (slic -/
import Derived.Test.YtlfoalomaofejaaGreatDoorM1
set_option linter.all false
set_option maxRecDepth 100000
set_option maxHeartbeats 2000000
namespace Go.Proofs.YtlfoalomaofejaaGreatDoor
section
open Go.Shelf Go.RowKit Go.Lib Go.Sort SS
structure SPw(P:Program)(k:Nat):Prop where
 mixed:P.follows .mixedOrders=true
 t0:P.underlying 0=some (.tuple #[])
 a0:∀ w,(isAgg 0).run P w=.ok false w
 z0:∀ w,(Go.sizeOf 0).run P w=.ok 1 w
 v0:∀ w,(zeroValue 0).run P w=.ok (.tuple #[]) w
 t3:P.underlying 3=some (.int .i64)
 a3:∀ w,(isAgg 3).run P w=.ok false w
 z3:∀ w,(Go.sizeOf 3).run P w=.ok 1 w
 v3:∀ w,(zeroValue 3).run P w=.ok (.int .i64 0) w
 t4:P.underlying 4=some .bool
 a4:∀ w,(isAgg 4).run P w=.ok false w
 z4:∀ w,(Go.sizeOf 4).run P w=.ok 1 w
 v4:∀ w,(zeroValue 4).run P w=.ok (.bool false) w
 t246:P.underlying 271=some (.int .u64)
 a246:∀ w,(isAgg 271).run P w=.ok false w
 z246:∀ w,(Go.sizeOf 271).run P w=.ok 1 w
 v246:∀ w,(zeroValue 271).run P w=.ok (.int .u64 0) w
 tS:P.underlying 22=some (.slice 53)
 aS:∀ w,(isAgg 22).run P w=.ok false w
 zS:∀ w,(Go.sizeOf 22).run P w=.ok 1 w
 vS:∀ w,(zeroValue 22).run P w=.ok (.slice none 0 0) w
 tF:P.underlying 323=some (.func #[53,53] #[3] false)
 aF:∀ w,(isAgg 323).run P w=.ok false w
 zF:∀ w,(Go.sizeOf 323).run P w=.ok 1 w
 vF:∀ w,(zeroValue 323).run P w=.ok .nilFunc w
 aE:∀ w,(isAgg 53).run P w=.ok true w
 zE:∀ w,(Go.sizeOf 53).run P w=.ok k w
theorem sp_w:SPw Tryz.prog 6:=by
 constructor<;>first|kernel_rfl|(intro w;kernel_rfl)
theorem E4{P:Program}{k:Nat}(L:SPw P k)(F:P.funcs[290]?=some Tryz.f290){α:Type}[Inhabited α](enc:α->List Value)(w0 W:World)(blk off cap a b n:Nat)(Y A:Array α)(R:RowK enc k w0 blk off Y)(hs:A.size=Y.size)(h:SWK enc k w0 blk off A W)
  (ac:a+n<=b) (hb:b+n<=A.size) (aa:A.size<4611686018427387904) (v:Value) :
  Calls P 290 #[.slice (some ⟨blk,off,none⟩) A.size cap,.int .i64 a,.int .i64 b,.int .i64 n,v] W λe w'=>e=.returned (.tuple #[])/\∃ d',Hm A a b n d'/\SWK enc k w0 blk off d' w':=by
 have mixed:=L.mixed;have t0:=L.t0;have a0:=L.a0;have z0:=L.z0;have v0:=L.v0;have t3:=L.t3;have a3:=L.a3;have z3:=L.z3;have v3:=L.v3;have t4:=L.t4;have a4:=L.a4;have z4:=L.z4;have v4:=L.v4;have t246:=L.t246;have a246:=L.a246;have z246:=L.z246;have v246:=L.v246;have tS:=L.tS;have aS:=L.aS;have zS:=L.zS;have vS:=L.vS;have tF:=L.tF;have aF:=L.aF;have zF:=L.zF;have vF:=L.vF;have aE:=L.aE;have zE:=L.zE;have uS:=run_underlying L.tS;have J:Aside _:=R;have HH:Aside _:=h;have HS:=Hd hs;clear R h hs L;go_enter F,Tryz.ntmps290
 go_wp2
 go_loopg [10] n (λg1 vi wr=>∃ (i:Nat) (q:Array α),vi=.int .i64 i/\i<=n/\n<=i+g1/\Hid (Hm A a b i q)/\Hid (SWK enc k w0 blk off q wr))
 case atStart=>exact⟨0,A,rfl,Nat.zero_le _,Om,Hm.zero _ _ _,HH.out⟩
 case round =>
  obtain⟨i,q,rfl,hi,hg,Z,K⟩:=hrel;by_cases ab:i<n
  ·have M:(i:Int)<(n:Int):=Om;have X:q.size=A.size:=Z.out.1;have z:q.size=Y.size:=X.trans HS;have U:a+i<q.size:=Om;have V:b+i<q.size:=Om;obtain⟨ex,I⟩:∃ c,enc q[a+i]! = c:=⟨_,rfl⟩;obtain⟨ey,G⟩:∃ c,enc q[b+i]! = c:=⟨_,rfl⟩;have l1:=K.out.ld1 J.out z P (b+i) V;have l2:=K.out.ld1 J.out z P (a+i) U;have s1:=K.out.st1 J.out z P (a+i) U q[b+i]!;have s2:=K.out.st2 J.out z P (a+i) (b+i) U V q[b+i]! q[a+i]!;have HN:=Hd (K.out.swapped J.out (a+i) (b+i) U V);have y1:ex.length=k:=by rw[<- I];exact J.out.hk _
   have y2:ey.length=k:=by rw[<- G];exact J.out.hk _
   rw[I]at l2 s2;rw[G]at l1 s1 s2;have CC:=Hd (Ai1 I G);have z1:(a:Int)+i<A.size:=Om;have z2:(b:Int)+i<A.size:=Om;clear I G z;go_wp2_with fail
   go_big_region_o
   all_goals go_wp2
   go_roundg (n-(i+1))
   case measure=>omega
   case rel=>exact⟨i+1,swp q (a+i) (b+i),by go_num,Om,Om,Z.out.step Om Om,by rw[CC.1,CC.2]at HN;exact HN⟩
  ·have M:¬ (i:Int)<(n:Int):=Om
   go_wp2
   go_end0
   have e:i=n:=Om;subst e;exact⟨rfl,q,Z.out,K.out⟩
end
section
open Go.Shelf Go.RowKit Go.Lib Go.Sort SS
theorem Ar{α:Type}[Inhabited α](enc:α->List Value)(w0 W:World)(blk off cap a b n sz:Nat)(G q:Array α)(R:RowK enc 6 w0 blk off G)(K:q.size=G.size)(h:SWK enc 6 w0 blk off q W)
  (J:sz=q.size) (A:a+n<=b) (L:b+n<=q.size) (z:q.size<4611686018427387904) (v:Value) :
  Calls Tryz.prog 290 #[.slice (some ⟨blk,off,none⟩) sz cap,.int .i64 a,.int .i64 b,.int .i64 n,v] W λe w'=>e=.returned (.tuple #[])/\∃ I,Hm q a b n I/\SWK enc 6 w0 blk off I w':=by
 subst J;exact E4 sp_w Tryz.func290 enc w0 W blk off cap a b n G q R K h A L z v
theorem Zin{α:Type}[Inhabited α](enc:α->List Value)(w0 W:World)(blk off cap a m b sz:Nat)(X z:Array α)(R:RowK enc 6 w0 blk off X)(hs:z.size=X.size)(h:SWK enc 6 w0 blk off z W)
  (hz:sz=z.size) (af:a<m) (ac:m<b) (hb:b<=z.size) (ab:z.size<4611686018427387904) (v:Value) :
  Calls Tryz.prog 278 #[.slice (some ⟨blk,off,none⟩) sz cap,.int .i64 a,.int .i64 m,.int .i64 b,v] W λe w'=>e=.returned (.tuple #[])/\∃ A,Vo z a m b A/\SWK enc 6 w0 blk off A w':=by
 have RR:Aside _:=R;have HH:Aside _:=h;have HS:=Hd hs;have HZ:=Hd hz;clear R h hs hz;go_enter Tryz.func278,Tryz.ntmps278
 go_wp2
 go_loopg [10,11] (b-a) (λg1 vi vj wr=>∃ (i j:Nat) (I:Array α),vi=.int .i64 i/\vj=.int .i64 j/\0<i/\0<j/\i<=m-a/\j<=b-m/\i+j<=g1/\Hid (Oh z a m b i j I)/\Hid (SWK enc 6 w0 blk off I wr))
 case atStart=>exact⟨m-a,b-m,z,by go_num,by go_num,Om,Om,Nl _,Nl _,Om,Oh.start z Om Om,HH.out⟩
 case round =>
  obtain⟨i,j,I,rfl,rfl,hi,hj,ae,ad,hg,M,Z⟩:=hrel;have G:I.size=z.size:=M.out.1;have J:=Hd G;have Y:=Hd (HZ.out.trans G.symm)
  have q:∀ (W:World) (x y n:Nat) (xi yi ni:Int),xi=x->yi=y->ni=n->SWK enc 6 w0 blk off I W->x+n<=y->y+n<=z.size ->
    Calls Tryz.prog 290 #[.slice (some ⟨blk,off,none⟩) sz cap,.int .i64 xi,.int .i64 yi,.int .i64 ni,v] W λe w'=>e=.returned (.tuple #[])/\∃ A,Hm I x y n A/\SWK enc 6 w0 blk off A w':=by
   rintro W x y n _ _ _ rfl rfl rfl h1 h2 h3;exact Ar enc w0 W blk off cap x y n sz X I RR.out (J.trans HS) h1 Y h2 (by have:=J.out;omega) (by have:=J.out;omega) v
  clear G;by_cases he:i=j
  ·subst he;have K:=q wr (m-i) m i (m-i) m i Om rfl rfl Z.out Om Om;clear q;go_wp2_with (go_at_call 290;refine K.mono ?_;rintro e W1 ⟨rfl,A,h1,h2⟩)
   go_end0
   exact⟨rfl,A,M.out.done Om Om h1,h2⟩
  ·have V:¬ (i:Int)=(j:Int):=Om;have aa:((i:Int)==(j:Int))=false:=(by simpa using V);by_cases U:j<i
   ·have L:(j:Int)<(i:Int):=Om;have K:=q wr (m-i) m j (m-i) m j Om rfl rfl Z.out Om Om;clear q;go_wp2_with (go_at_call 290;refine K.mono ?_;rintro e W1 ⟨rfl,A,h1,h2⟩;clear K)
    go_roundg i
    case measure=>omega
    case rel=>exact⟨i-j,j,A,by go_num,rfl,Om,Om,Om,Om,Om,M.out.left Om Om U h1,h2⟩
   ·have L:¬ (j:Int)<(i:Int):=Om;have K:=q wr (m-i) (m+j-i) i (m-i) (m+j-i) i Om Om rfl Z.out Om Om;clear q;go_wp2_with (go_at_call 290;refine K.mono ?_;rintro e W1 ⟨rfl,A,h1,h2⟩;clear K)
    go_roundg j
    case measure=>omega
    case rel=>exact⟨i,j-i,A,rfl,by go_num,Om,Om,Om,Om,Om,M.out.right Om Om Om h1,h2⟩
end
section
open Go.Shelf Go.RowKit Go.Lib Go.Sort SS
structure El(κ:Type)(k:Nat) where
 key:κ
 rest:List Value
 hl:rest.length=k
 h1:∀ v∈rest,v.oneCell'=true
 tag:Nat
instance {κ:Type} [Inhabited κ] {k:Nat}:Inhabited (El κ k):=⟨⟨default,List.replicate k (.bool false),by simp,λv hv=>by rw[List.eq_of_mem_replicate hv];rfl,0⟩⟩
def El.enc{κ:Type}{k:Nat}(kv:κ->Value)(x:El κ k):List Value:=kv x.key::x.rest
theorem El.enc_len{κ:Type}{k:Nat}(kv:κ->Value)(x:El κ k):(x.enc kv).length=k+1:=by simp[El.enc,x.hl]
theorem El.enc_one{κ:Type}{k:Nat}{kv:κ->Value}(z:∀ q,(kv q).oneCell'=true)(x:El κ k):∀ v∈x.enc kv,v.oneCell'=true:=by
 intro v h;rcases List.mem_cons.1 h with rfl|h
 ·exact z _
 ·exact x.h1 v h
variable{α:Type}[Inhabited α]{enc:α->List Value}{k:Nat}{w0 W:World}{blk off:Nat}
theorem Pp(w:World)(blk:Nat)(f:Array Value->Array Value)(j:Nat):(mapBlock w blk f).heap[j]?=if j=blk then (w.heap[j]?).map (onCells f) else w.heap[j]?:=by
 unfold mapBlock;simp only[Array.getElem?_modify];by_cases h:blk=j
 ·rw[if_pos h,if_pos h.symm]
 ·rw[if_neg h,if_neg (λe=>h e.symm)]
theorem Zcp{z:Array α}(h:SWK enc k w0 blk off z W):Fr (λj=>j=blk) w0 W:=by
 obtain⟨n,os,rfl⟩:=h;unfold sortWorldK;refine⟨rfl,rfl,rfl,by rw[size_grow,size_putRowK];exact Nat.le_add_right _ _,λj G A=>?_⟩;have q:(putRowK enc k (Sort.ahead w0 n) blk off z).heap.size=w0.heap.size:=by rw[size_putRowK];rfl
 rw[heap_grow_old _ _ (by rw[q];exact G)];unfold putRowK putRow;rw[Pp,if_neg A];rfl
theorem Ql(q:∀ x,(enc x).length=k)(d:Array α):(flatK enc k d).toList=d.toList.flatMap enc:=by
 have I:∀ (l:List α),(l.flatMap enc).length=l.length*k:=by
  intro l
  induction l with
  | nil=>simp
  | cons x l ih=>rw[List.flatMap_cons,List.length_append,ih,q,List.length_cons,Nat.add_mul,Nat.one_mul];omega
 have G:∀ (l:List α) (i j:Nat) (hi:i<l.length) (K:j<k),(l.flatMap enc)[i*k+j]?=(enc l[i])[j]?:=by
  intro l
  induction l with
  | nil=>intro i j hi;simp at hi
  | cons x l ih =>
   intro i j hi K;rw[List.flatMap_cons]
   cases i with
   | zero =>
    rw[List.getElem?_append_left (by rw[q];omega)];simp
   | succ i =>
    have J:i<l.length:=(by simpa using hi);have e:(i+1)*k+j=k+(i*k+j):=by rw[Nat.add_mul,Nat.one_mul];omega
    rw[List.getElem?_append_right (by rw[q];omega),q,e,Nat.add_sub_cancel_left,ih i j J K];simp
 apply List.ext_getElem?;intro t;by_cases z:t<d.size*k
 ·have A:0<k:=by
   rcases Nat.eq_zero_or_pos k with h|h
   ·subst h;simp at z
   ·exact h
  have h1:t / k<d.size:=by rw[Nat.div_lt_iff_lt_mul A];exact z
  have h2:t % k<k:=Nat.mod_lt _ A;have e:t / k*k+t % k=t:=by rw[Nat.mul_comm];exact Nat.div_add_mod t k
  have M:=G d.toList (t / k) (t % k) (by simpa using h1) h2;rw[e]at M;rw[M,Array.getElem?_toList,Array.getElem?_eq_getElem (by rw[size_flatK];exact z),Array.getElem_toList];have L:=get_flatK enc k d t z;rw[getElem!_pos _ t (by rw[size_flatK];exact z)]at L;rw[L,getElem!_pos d (t / k) h1,getElem!_pos (enc _) (t % k) (by rw[q];exact h2),Ge (by rw[q];exact h2)]
 ·rw[List.getElem?_eq_none (by rw[Array.length_toList,size_flatK];omega),List.getElem?_eq_none (by rw[I,Array.length_toList];omega)]
theorem Hw(F q:Array Value)(h:F.size<=q.size):(putCells id 0 F q).toList.take F.size=F.toList/\(putCells id 0 F q).size=q.size:=by
 refine⟨?_,by simp[putCells]⟩;apply List.ext_getElem?;intro t;by_cases z:t<F.size
 ·rw[List.getElem?_take_of_lt z,Array.getElem?_toList,Array.getElem?_toList];unfold putCells;rw[Array.getElem?_mapIdx,Array.getElem?_eq_getElem ((Om:t<q.size)),Array.getElem?_eq_getElem z];simp[z]
 ·rw[List.getElem?_eq_none (by rw[List.length_take];omega),List.getElem?_eq_none (by rw[Array.length_toList];omega)]
theorem Ib{B T n g cap:Nat}{xs:List Value}(h:W.ownsRow B T k (.slice (some ⟨g,0,none⟩) n cap) n xs)(K:∀ x,(enc x).length=k)(h1:∀ x,∀ v∈enc x,v.oneCell'=true){d:Array α}(hd:xs=d.toList.flatMap enc)(M:d.size=n):RowK enc k W g 0 d:=by
 obtain⟨hl,⟨e,_⟩|⟨Y,L,z,e,X,J,h2,h3,h4,U⟩⟩:=h
 ·cases e
 ·simp only[Value.slice.injEq,Option.some.injEq,Addr.mk.injEq,and_true,true_and]at e;obtain⟨rfl,rfl⟩:=e;have I:g<W.heap.size:=(Gs1.1 J).1;refine⟨K,h1,λj G=>?_,I⟩;rw[size_flatK]at G;have A:j<n*k:=by rw[<- M];exact G
  have q:j<z.size:=by
   rw[h4];exact Nat.lt_of_lt_of_le A (Nat.mul_le_mul_right _ h2)
  have V:z[j]=(flatK enc k d)[j]!:=by
   have:(z.toList.take (n*k))[j]?=(flatK enc k d).toList[j]?:=(by rw[U,hd,Ql K]);rw[List.getElem?_take_of_lt A,Array.getElem?_toList,Array.getElem?_toList,Array.getElem?_eq_getElem q,Array.getElem?_eq_getElem (by rw[size_flatK];exact G)]at this;rw[getElem!_pos _ j (by rw[size_flatK];exact G)];exact Option.some.inj this
  constructor
  ·simp only[World.cell?,J,Nat.zero_add];simp[q,V]
  ·simp[World.frozen?,J]
theorem Dz{B T n g cap:Nat}{xs:List Value}(h:w0.ownsRow B T k (.slice (some ⟨g,0,none⟩) n cap) n xs)(I:∀ x,(enc x).length=k){d:Array α}(U:d.size=n)(M:SWK enc k w0 g 0 d W):W.ownsRow B T k (.slice (some ⟨g,0,none⟩) n cap) n (d.toList.flatMap enc):=by
 obtain⟨hl,⟨e,_⟩|⟨Y,K,q,e,V,J,h2,h3,h4,X⟩⟩:=h
 ·cases e
 ·simp only[Value.slice.injEq,Option.some.injEq,Addr.mk.injEq,and_true,true_and]at e;obtain⟨rfl,rfl⟩:=e;have z:g<w0.heap.size:=(Gs1.1 J).1;obtain⟨m,os,rfl⟩:=M;have hF:(flatK enc k d).size=n*k:=by rw[size_flatK,U]
  have A:(flatK enc k d).size<=q.size:=by rw[hF,h4];exact Nat.mul_le_mul_right _ h2
  obtain⟨G,L⟩:=Hw (flatK enc k d) q A;rw[hF,Ql I]at G;refine⟨?_,.inr ⟨g,cap,putCells id 0 (flatK enc k d) q,rfl,V,?_,h2,h3,by rw[L,h4],G⟩⟩
  ·rw[<- Ql I,Array.length_toList,hF]
  ·unfold sortWorldK;rw[heap_grow_old _ _ (by rw[size_putRowK];exact z)];unfold putRowK putRow;rw[Pp,if_pos rfl];show (w0.heap[g]?).map _=_;rw[J];rfl
end
section
open Go.Shelf Go.RowKit Go.Lib Go.Sort SS
structure SPu(P:Program)(k:Nat):Prop where
 mixed:P.follows .mixedOrders=true
 t0:P.underlying 0=some (.tuple #[])
 a0:∀ w,(isAgg 0).run P w=.ok false w
 z0:∀ w,(Go.sizeOf 0).run P w=.ok 1 w
 v0:∀ w,(zeroValue 0).run P w=.ok (.tuple #[]) w
 t3:P.underlying 3=some (.int .i64)
 a3:∀ w,(isAgg 3).run P w=.ok false w
 z3:∀ w,(Go.sizeOf 3).run P w=.ok 1 w
 v3:∀ w,(zeroValue 3).run P w=.ok (.int .i64 0) w
 t4:P.underlying 4=some .bool
 a4:∀ w,(isAgg 4).run P w=.ok false w
 z4:∀ w,(Go.sizeOf 4).run P w=.ok 1 w
 v4:∀ w,(zeroValue 4).run P w=.ok (.bool false) w
 t246:P.underlying 271=some (.int .u64)
 a246:∀ w,(isAgg 271).run P w=.ok false w
 z246:∀ w,(Go.sizeOf 271).run P w=.ok 1 w
 v246:∀ w,(zeroValue 271).run P w=.ok (.int .u64 0) w
 tS:P.underlying 26=some (.slice 36)
 aS:∀ w,(isAgg 26).run P w=.ok false w
 zS:∀ w,(Go.sizeOf 26).run P w=.ok 1 w
 vS:∀ w,(zeroValue 26).run P w=.ok (.slice none 0 0) w
 tF:P.underlying 173=some (.func #[36,36] #[3] false)
 aF:∀ w,(isAgg 173).run P w=.ok false w
 zF:∀ w,(Go.sizeOf 173).run P w=.ok 1 w
 vF:∀ w,(zeroValue 173).run P w=.ok .nilFunc w
 aE:∀ w,(isAgg 36).run P w=.ok true w
 zE:∀ w,(Go.sizeOf 36).run P w=.ok k w
theorem sp_u:SPu Tryz.prog 5:=by
 constructor<;>first|kernel_rfl|(intro w;kernel_rfl)
theorem E8{P:Program}{k:Nat}(L:SPu P k)(F:P.funcs[245]?=some Tryz.f245){α:Type}[Inhabited α](enc:α->List Value)(w0 W:World)(blk off cap a b n:Nat)(Y A:Array α)(R:RowK enc k w0 blk off Y)(hs:A.size=Y.size)(h:SWK enc k w0 blk off A W)
  (ac:a+n<=b) (hb:b+n<=A.size) (aa:A.size<4611686018427387904) (v:Value) :
  Calls P 245 #[.slice (some ⟨blk,off,none⟩) A.size cap,.int .i64 a,.int .i64 b,.int .i64 n,v] W λe w'=>e=.returned (.tuple #[])/\∃ d',Hm A a b n d'/\SWK enc k w0 blk off d' w':=by
 have mixed:=L.mixed;have t0:=L.t0;have a0:=L.a0;have z0:=L.z0;have v0:=L.v0;have t3:=L.t3;have a3:=L.a3;have z3:=L.z3;have v3:=L.v3;have t4:=L.t4;have a4:=L.a4;have z4:=L.z4;have v4:=L.v4;have t246:=L.t246;have a246:=L.a246;have z246:=L.z246;have v246:=L.v246;have tS:=L.tS;have aS:=L.aS;have zS:=L.zS;have vS:=L.vS;have tF:=L.tF;have aF:=L.aF;have zF:=L.zF;have vF:=L.vF;have aE:=L.aE;have zE:=L.zE;have uS:=run_underlying L.tS;have J:Aside _:=R;have HH:Aside _:=h;have HS:=Hd hs;clear R h hs L;go_enter F,Tryz.ntmps245
 go_wp2
 go_loopg [10] n (λg1 vi wr=>∃ (i:Nat) (q:Array α),vi=.int .i64 i/\i<=n/\n<=i+g1/\Hid (Hm A a b i q)/\Hid (SWK enc k w0 blk off q wr))
 case atStart=>exact⟨0,A,rfl,Nat.zero_le _,Om,Hm.zero _ _ _,HH.out⟩
 case round =>
  obtain⟨i,q,rfl,hi,hg,Z,K⟩:=hrel;by_cases ab:i<n
  ·have M:(i:Int)<(n:Int):=Om;have X:q.size=A.size:=Z.out.1;have z:q.size=Y.size:=X.trans HS;have U:a+i<q.size:=Om;have V:b+i<q.size:=Om;obtain⟨ex,I⟩:∃ c,enc q[a+i]! = c:=⟨_,rfl⟩;obtain⟨ey,G⟩:∃ c,enc q[b+i]! = c:=⟨_,rfl⟩;have l1:=K.out.ld1 J.out z P (b+i) V;have l2:=K.out.ld1 J.out z P (a+i) U;have s1:=K.out.st1 J.out z P (a+i) U q[b+i]!;have s2:=K.out.st2 J.out z P (a+i) (b+i) U V q[b+i]! q[a+i]!;have HN:=Hd (K.out.swapped J.out (a+i) (b+i) U V);have y1:ex.length=k:=by rw[<- I];exact J.out.hk _
   have y2:ey.length=k:=by rw[<- G];exact J.out.hk _
   rw[I]at l2 s2;rw[G]at l1 s1 s2;have CC:=Hd (Ai1 I G);have z1:(a:Int)+i<A.size:=Om;have z2:(b:Int)+i<A.size:=Om;clear I G z;go_wp2_with fail
   go_big_region_o
   all_goals go_wp2
   go_roundg (n-(i+1))
   case measure=>omega
   case rel=>exact⟨i+1,swp q (a+i) (b+i),by go_num,Om,Om,Z.out.step Om Om,by rw[CC.1,CC.2]at HN;exact HN⟩
  ·have M:¬ (i:Int)<(n:Int):=Om
   go_wp2
   go_end0
   have e:i=n:=Om;subst e;exact⟨rfl,q,Z.out,K.out⟩
end
section
open Go.Shelf Go.RowKit Go.Lib Go.Sort SS
theorem Aw{α:Type}[Inhabited α](enc:α->List Value)(w0 W:World)(blk off cap a b n sz:Nat)(G q:Array α)(R:RowK enc 5 w0 blk off G)(K:q.size=G.size)(h:SWK enc 5 w0 blk off q W)
  (J:sz=q.size) (A:a+n<=b) (L:b+n<=q.size) (z:q.size<4611686018427387904) (v:Value) :
  Calls Tryz.prog 245 #[.slice (some ⟨blk,off,none⟩) sz cap,.int .i64 a,.int .i64 b,.int .i64 n,v] W λe w'=>e=.returned (.tuple #[])/\∃ I,Hm q a b n I/\SWK enc 5 w0 blk off I w':=by
 subst J;exact E8 sp_u Tryz.func245 enc w0 W blk off cap a b n G q R K h A L z v
theorem Zio{α:Type}[Inhabited α](enc:α->List Value)(w0 W:World)(blk off cap a m b sz:Nat)(X z:Array α)(R:RowK enc 5 w0 blk off X)(hs:z.size=X.size)(h:SWK enc 5 w0 blk off z W)
  (hz:sz=z.size) (af:a<m) (ac:m<b) (hb:b<=z.size) (ab:z.size<4611686018427387904) (v:Value) :
  Calls Tryz.prog 203 #[.slice (some ⟨blk,off,none⟩) sz cap,.int .i64 a,.int .i64 m,.int .i64 b,v] W λe w'=>e=.returned (.tuple #[])/\∃ A,Vo z a m b A/\SWK enc 5 w0 blk off A w':=by
 have RR:Aside _:=R;have HH:Aside _:=h;have HS:=Hd hs;have HZ:=Hd hz;clear R h hs hz;go_enter Tryz.func203,Tryz.ntmps203
 go_wp2
 go_loopg [10,11] (b-a) (λg1 vi vj wr=>∃ (i j:Nat) (I:Array α),vi=.int .i64 i/\vj=.int .i64 j/\0<i/\0<j/\i<=m-a/\j<=b-m/\i+j<=g1/\Hid (Oh z a m b i j I)/\Hid (SWK enc 5 w0 blk off I wr))
 case atStart=>exact⟨m-a,b-m,z,by go_num,by go_num,Om,Om,Nl _,Nl _,Om,Oh.start z Om Om,HH.out⟩
 case round =>
  obtain⟨i,j,I,rfl,rfl,hi,hj,ae,ad,hg,M,Z⟩:=hrel;have G:I.size=z.size:=M.out.1;have J:=Hd G;have Y:=Hd (HZ.out.trans G.symm)
  have q:∀ (W:World) (x y n:Nat) (xi yi ni:Int),xi=x->yi=y->ni=n->SWK enc 5 w0 blk off I W->x+n<=y->y+n<=z.size ->
    Calls Tryz.prog 245 #[.slice (some ⟨blk,off,none⟩) sz cap,.int .i64 xi,.int .i64 yi,.int .i64 ni,v] W λe w'=>e=.returned (.tuple #[])/\∃ A,Hm I x y n A/\SWK enc 5 w0 blk off A w':=by
   rintro W x y n _ _ _ rfl rfl rfl h1 h2 h3;exact Aw enc w0 W blk off cap x y n sz X I RR.out (J.trans HS) h1 Y h2 (by have:=J.out;omega) (by have:=J.out;omega) v
  clear G;by_cases he:i=j
  ·subst he;have K:=q wr (m-i) m i (m-i) m i Om rfl rfl Z.out Om Om;clear q;go_wp2_with (go_at_call 245;refine K.mono ?_;rintro e W1 ⟨rfl,A,h1,h2⟩)
   go_end0
   exact⟨rfl,A,M.out.done Om Om h1,h2⟩
  ·have V:¬ (i:Int)=(j:Int):=Om;have aa:((i:Int)==(j:Int))=false:=(by simpa using V);by_cases U:j<i
   ·have L:(j:Int)<(i:Int):=Om;have K:=q wr (m-i) m j (m-i) m j Om rfl rfl Z.out Om Om;clear q;go_wp2_with (go_at_call 245;refine K.mono ?_;rintro e W1 ⟨rfl,A,h1,h2⟩;clear K)
    go_roundg i
    case measure=>omega
    case rel=>exact⟨i-j,j,A,by go_num,rfl,Om,Om,Om,Om,Om,M.out.left Om Om U h1,h2⟩
   ·have L:¬ (j:Int)<(i:Int):=Om;have K:=q wr (m-i) (m+j-i) i (m-i) (m+j-i) i Om Om rfl Z.out Om Om;clear q;go_wp2_with (go_at_call 245;refine K.mono ?_;rintro e W1 ⟨rfl,A,h1,h2⟩;clear K)
    go_roundg j
    case measure=>omega
    case rel=>exact⟨i,j-i,A,rfl,by go_num,Om,Om,Om,Om,Om,M.out.right Om Om Om h1,h2⟩
end
section
open Go.Shelf Go.RowKit Go.Lib Go.Sort SS
structure SPr(P:Program)(k:Nat):Prop where
 mixed:P.follows .mixedOrders=true
 t0:P.underlying 0=some (.tuple #[])
 a0:∀ w,(isAgg 0).run P w=.ok false w
 z0:∀ w,(Go.sizeOf 0).run P w=.ok 1 w
 v0:∀ w,(zeroValue 0).run P w=.ok (.tuple #[]) w
 t3:P.underlying 3=some (.int .i64)
 a3:∀ w,(isAgg 3).run P w=.ok false w
 z3:∀ w,(Go.sizeOf 3).run P w=.ok 1 w
 v3:∀ w,(zeroValue 3).run P w=.ok (.int .i64 0) w
 t4:P.underlying 4=some .bool
 a4:∀ w,(isAgg 4).run P w=.ok false w
 z4:∀ w,(Go.sizeOf 4).run P w=.ok 1 w
 v4:∀ w,(zeroValue 4).run P w=.ok (.bool false) w
 t246:P.underlying 271=some (.int .u64)
 a246:∀ w,(isAgg 271).run P w=.ok false w
 z246:∀ w,(Go.sizeOf 271).run P w=.ok 1 w
 v246:∀ w,(zeroValue 271).run P w=.ok (.int .u64 0) w
 tS:P.underlying 155=some (.slice 160)
 aS:∀ w,(isAgg 155).run P w=.ok false w
 zS:∀ w,(Go.sizeOf 155).run P w=.ok 1 w
 vS:∀ w,(zeroValue 155).run P w=.ok (.slice none 0 0) w
 tF:P.underlying 330=some (.func #[160,160] #[3] false)
 aF:∀ w,(isAgg 330).run P w=.ok false w
 zF:∀ w,(Go.sizeOf 330).run P w=.ok 1 w
 vF:∀ w,(zeroValue 330).run P w=.ok .nilFunc w
 aE:∀ w,(isAgg 160).run P w=.ok true w
 zE:∀ w,(Go.sizeOf 160).run P w=.ok k w
theorem sp_r:SPr Tryz.prog 4:=by
 constructor<;>first|kernel_rfl|(intro w;kernel_rfl)
theorem E9{P:Program}{k:Nat}(L:SPr P k)(F:P.funcs[294]?=some Tryz.f294){α:Type}[Inhabited α](enc:α->List Value)(w0 W:World)(blk off cap a b n:Nat)(Y A:Array α)(R:RowK enc k w0 blk off Y)(hs:A.size=Y.size)(h:SWK enc k w0 blk off A W)
  (ac:a+n<=b) (hb:b+n<=A.size) (aa:A.size<4611686018427387904) (v:Value) :
  Calls P 294 #[.slice (some ⟨blk,off,none⟩) A.size cap,.int .i64 a,.int .i64 b,.int .i64 n,v] W λe w'=>e=.returned (.tuple #[])/\∃ d',Hm A a b n d'/\SWK enc k w0 blk off d' w':=by
 have mixed:=L.mixed;have t0:=L.t0;have a0:=L.a0;have z0:=L.z0;have v0:=L.v0;have t3:=L.t3;have a3:=L.a3;have z3:=L.z3;have v3:=L.v3;have t4:=L.t4;have a4:=L.a4;have z4:=L.z4;have v4:=L.v4;have t246:=L.t246;have a246:=L.a246;have z246:=L.z246;have v246:=L.v246;have tS:=L.tS;have aS:=L.aS;have zS:=L.zS;have vS:=L.vS;have tF:=L.tF;have aF:=L.aF;have zF:=L.zF;have vF:=L.vF;have aE:=L.aE;have zE:=L.zE;have uS:=run_underlying L.tS;have J:Aside _:=R;have HH:Aside _:=h;have HS:=Hd hs;clear R h hs L;go_enter F,Tryz.ntmps294
 go_wp2
 go_loopg [10] n (λg1 vi wr=>∃ (i:Nat) (q:Array α),vi=.int .i64 i/\i<=n/\n<=i+g1/\Hid (Hm A a b i q)/\Hid (SWK enc k w0 blk off q wr))
 case atStart=>exact⟨0,A,rfl,Nat.zero_le _,Om,Hm.zero _ _ _,HH.out⟩
 case round =>
  obtain⟨i,q,rfl,hi,hg,Z,K⟩:=hrel;by_cases ab:i<n
  ·have M:(i:Int)<(n:Int):=Om;have X:q.size=A.size:=Z.out.1;have z:q.size=Y.size:=X.trans HS;have U:a+i<q.size:=Om;have V:b+i<q.size:=Om;obtain⟨ex,I⟩:∃ c,enc q[a+i]! = c:=⟨_,rfl⟩;obtain⟨ey,G⟩:∃ c,enc q[b+i]! = c:=⟨_,rfl⟩;have l1:=K.out.ld1 J.out z P (b+i) V;have l2:=K.out.ld1 J.out z P (a+i) U;have s1:=K.out.st1 J.out z P (a+i) U q[b+i]!;have s2:=K.out.st2 J.out z P (a+i) (b+i) U V q[b+i]! q[a+i]!;have HN:=Hd (K.out.swapped J.out (a+i) (b+i) U V);have y1:ex.length=k:=by rw[<- I];exact J.out.hk _
   have y2:ey.length=k:=by rw[<- G];exact J.out.hk _
   rw[I]at l2 s2;rw[G]at l1 s1 s2;have CC:=Hd (Ai1 I G);have z1:(a:Int)+i<A.size:=Om;have z2:(b:Int)+i<A.size:=Om;clear I G z;go_wp2_with fail
   go_big_region_o
   all_goals go_wp2
   go_roundg (n-(i+1))
   case measure=>omega
   case rel=>exact⟨i+1,swp q (a+i) (b+i),by go_num,Om,Om,Z.out.step Om Om,by rw[CC.1,CC.2]at HN;exact HN⟩
  ·have M:¬ (i:Int)<(n:Int):=Om
   go_wp2
   go_end0
   have e:i=n:=Om;subst e;exact⟨rfl,q,Z.out,K.out⟩
end
section
open Go.Shelf Go.RowKit Go.Lib Go.Sort SS
theorem Ax{α:Type}[Inhabited α](enc:α->List Value)(w0 W:World)(blk off cap a b n sz:Nat)(G q:Array α)(R:RowK enc 4 w0 blk off G)(K:q.size=G.size)(h:SWK enc 4 w0 blk off q W)
  (J:sz=q.size) (A:a+n<=b) (L:b+n<=q.size) (z:q.size<4611686018427387904) (v:Value) :
  Calls Tryz.prog 294 #[.slice (some ⟨blk,off,none⟩) sz cap,.int .i64 a,.int .i64 b,.int .i64 n,v] W λe w'=>e=.returned (.tuple #[])/\∃ I,Hm q a b n I/\SWK enc 4 w0 blk off I w':=by
 subst J;exact E9 sp_r Tryz.func294 enc w0 W blk off cap a b n G q R K h A L z v
theorem Zip{α:Type}[Inhabited α](enc:α->List Value)(w0 W:World)(blk off cap a m b sz:Nat)(X z:Array α)(R:RowK enc 4 w0 blk off X)(hs:z.size=X.size)(h:SWK enc 4 w0 blk off z W)
  (hz:sz=z.size) (af:a<m) (ac:m<b) (hb:b<=z.size) (ab:z.size<4611686018427387904) (v:Value) :
  Calls Tryz.prog 280 #[.slice (some ⟨blk,off,none⟩) sz cap,.int .i64 a,.int .i64 m,.int .i64 b,v] W λe w'=>e=.returned (.tuple #[])/\∃ A,Vo z a m b A/\SWK enc 4 w0 blk off A w':=by
 have RR:Aside _:=R;have HH:Aside _:=h;have HS:=Hd hs;have HZ:=Hd hz;clear R h hs hz;go_enter Tryz.func280,Tryz.ntmps280
 go_wp2
 go_loopg [10,11] (b-a) (λg1 vi vj wr=>∃ (i j:Nat) (I:Array α),vi=.int .i64 i/\vj=.int .i64 j/\0<i/\0<j/\i<=m-a/\j<=b-m/\i+j<=g1/\Hid (Oh z a m b i j I)/\Hid (SWK enc 4 w0 blk off I wr))
 case atStart=>exact⟨m-a,b-m,z,by go_num,by go_num,Om,Om,Nl _,Nl _,Om,Oh.start z Om Om,HH.out⟩
 case round =>
  obtain⟨i,j,I,rfl,rfl,hi,hj,ae,ad,hg,M,Z⟩:=hrel;have G:I.size=z.size:=M.out.1;have J:=Hd G;have Y:=Hd (HZ.out.trans G.symm)
  have q:∀ (W:World) (x y n:Nat) (xi yi ni:Int),xi=x->yi=y->ni=n->SWK enc 4 w0 blk off I W->x+n<=y->y+n<=z.size ->
    Calls Tryz.prog 294 #[.slice (some ⟨blk,off,none⟩) sz cap,.int .i64 xi,.int .i64 yi,.int .i64 ni,v] W λe w'=>e=.returned (.tuple #[])/\∃ A,Hm I x y n A/\SWK enc 4 w0 blk off A w':=by
   rintro W x y n _ _ _ rfl rfl rfl h1 h2 h3;exact Ax enc w0 W blk off cap x y n sz X I RR.out (J.trans HS) h1 Y h2 (by have:=J.out;omega) (by have:=J.out;omega) v
  clear G;by_cases he:i=j
  ·subst he;have K:=q wr (m-i) m i (m-i) m i Om rfl rfl Z.out Om Om;clear q;go_wp2_with (go_at_call 294;refine K.mono ?_;rintro e W1 ⟨rfl,A,h1,h2⟩)
   go_end0
   exact⟨rfl,A,M.out.done Om Om h1,h2⟩
  ·have V:¬ (i:Int)=(j:Int):=Om;have aa:((i:Int)==(j:Int))=false:=(by simpa using V);by_cases U:j<i
   ·have L:(j:Int)<(i:Int):=Om;have K:=q wr (m-i) m j (m-i) m j Om rfl rfl Z.out Om Om;clear q;go_wp2_with (go_at_call 294;refine K.mono ?_;rintro e W1 ⟨rfl,A,h1,h2⟩;clear K)
    go_roundg i
    case measure=>omega
    case rel=>exact⟨i-j,j,A,by go_num,rfl,Om,Om,Om,Om,Om,M.out.left Om Om U h1,h2⟩
   ·have L:¬ (j:Int)<(i:Int):=Om;have K:=q wr (m-i) (m+j-i) i (m-i) (m+j-i) i Om Om rfl Z.out Om Om;clear q;go_wp2_with (go_at_call 294;refine K.mono ?_;rintro e W1 ⟨rfl,A,h1,h2⟩;clear K)
    go_roundg j
    case measure=>omega
    case rel=>exact⟨i,j-i,A,rfl,by go_num,Om,Om,Om,Om,Om,M.out.right Om Om Om h1,h2⟩
end
end Go.Proofs.YtlfoalomaofejaaGreatDoor
