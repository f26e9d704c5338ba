/- The exchange of two runs (slic -/
import Derived.Test.YtlfoalomaofejaaGreatDoorC1
import Derived.Laws.AppendOwn
set_option linter.all false
set_option maxRecDepth 100000
set_option maxHeartbeats 2000000
namespace Go.Proofs.YtlfoalomaofejaaGreatDoor
section
open Go.Shelf Go.RowKit Go.Lib Go.Sort SS
structure SPw(P:Program)(k:Nat):Prop where
 mixed:P.follows .mixedOrders=true
 t0:P.underlying 0=some (.tuple #[])
 a0:∀ w,(isAgg 0).run P w=.ok false w
 z0:∀ w,(Go.sizeOf 0).run P w=.ok 1 w
 v0:∀ w,(zeroValue 0).run P w=.ok (.tuple #[]) w
 t3:P.underlying 3=some (.int .i64)
 a3:∀ w,(isAgg 3).run P w=.ok false w
 z3:∀ w,(Go.sizeOf 3).run P w=.ok 1 w
 v3:∀ w,(zeroValue 3).run P w=.ok (.int .i64 0) w
 t4:P.underlying 4=some .bool
 a4:∀ w,(isAgg 4).run P w=.ok false w
 z4:∀ w,(Go.sizeOf 4).run P w=.ok 1 w
 v4:∀ w,(zeroValue 4).run P w=.ok (.bool false) w
 t246:P.underlying 271=some (.int .u64)
 a246:∀ w,(isAgg 271).run P w=.ok false w
 z246:∀ w,(Go.sizeOf 271).run P w=.ok 1 w
 v246:∀ w,(zeroValue 271).run P w=.ok (.int .u64 0) w
 tS:P.underlying 22=some (.slice 53)
 aS:∀ w,(isAgg 22).run P w=.ok false w
 zS:∀ w,(Go.sizeOf 22).run P w=.ok 1 w
 vS:∀ w,(zeroValue 22).run P w=.ok (.slice none 0 0) w
 tF:P.underlying 323=some (.func #[53,53] #[3] false)
 aF:∀ w,(isAgg 323).run P w=.ok false w
 zF:∀ w,(Go.sizeOf 323).run P w=.ok 1 w
 vF:∀ w,(zeroValue 323).run P w=.ok .nilFunc w
 aE:∀ w,(isAgg 53).run P w=.ok true w
 zE:∀ w,(Go.sizeOf 53).run P w=.ok k w
theorem sp_w:SPw Tryz.prog 6:=by
 constructor<;>first|kernel_rfl|(intro w;kernel_rfl)
theorem Ef{P:Program}{k:Nat}(L:SPw P k)(F:P.funcs[290]?=some Tryz.f290){α:Type}[Inhabited α](enc:α->List Value)(w0 W:World)(blk off cap a b n:Nat)(d0 dk:Array α)(R:RowK enc k w0 blk off d0)(hs:dk.size=d0.size)(h:SWK enc k w0 blk off dk W)
  (hab:a+n<=b) (hb:b+n<=dk.size) (hsz:dk.size<4611686018427387904) (v:Value) :
  Calls P 290 #[.slice (some ⟨blk,off,none⟩) dk.size cap,.int .i64 a,.int .i64 b,.int .i64 n,v] W λe w'=>e=.returned (.tuple #[])/\∃ d',Iy dk a b n d'/\SWK enc k w0 blk off d' w':=by
 have mixed:=L.mixed;have t0:=L.t0;have a0:=L.a0;have z0:=L.z0;have v0:=L.v0;have t3:=L.t3;have a3:=L.a3;have z3:=L.z3;have v3:=L.v3;have t4:=L.t4;have a4:=L.a4;have z4:=L.z4;have v4:=L.v4;have t246:=L.t246;have a246:=L.a246;have z246:=L.z246;have v246:=L.v246;have tS:=L.tS;have aS:=L.aS;have zS:=L.zS;have vS:=L.vS;have tF:=L.tF;have aF:=L.aF;have zF:=L.zF;have vF:=L.vF;have aE:=L.aE;have zE:=L.zE;have uS:=run_underlying L.tS;have RR:Aside _:=R;have HH:Aside _:=h;have HS:=Hd hs;clear R h hs L;go_enter F,Tryz.ntmps290
 go_wp2
 go_loopg [10] n (λg1 vi wr=>∃ (i:Nat) (di:Array α),vi=.int .i64 i/\i<=n/\n<=i+g1/\Hid (Iy dk a b i di)/\Hid (SWK enc k w0 blk off di wr))
 case atStart=>exact⟨0,dk,rfl,Nat.zero_le _,Om,Iy.zero _ _ _,HH.out⟩
 case round =>
  obtain⟨i,di,rfl,hi,hg,HR,HW⟩:=hrel;by_cases hlt:i<n
  ·have hltz:(i:Int)<(n:Int):=Om;have hsd:di.size=dk.size:=HR.out.1;have hs0:di.size=d0.size:=hsd.trans HS;have x1:a+i<di.size:=Om;have x2:b+i<di.size:=Om;obtain⟨ex,hex⟩:∃ c,enc di[a+i]! = c:=⟨_,rfl⟩;obtain⟨ey,hey⟩:∃ c,enc di[b+i]! = c:=⟨_,rfl⟩;have l1:=HW.out.ld1 RR.out hs0 P (b+i) x2;have l2:=HW.out.ld1 RR.out hs0 P (a+i) x1;have s1:=HW.out.st1 RR.out hs0 P (a+i) x1 di[b+i]!;have s2:=HW.out.st2 RR.out hs0 P (a+i) (b+i) x1 x2 di[b+i]! di[a+i]!;have HN:=Hd (HW.out.swapped RR.out (a+i) (b+i) x1 x2);have y1:ex.length=k:=by rw[<- hex];exact RR.out.hk _
   have y2:ey.length=k:=by rw[<- hey];exact RR.out.hk _
   rw[hex]at l2 s2;rw[hey]at l1 s1 s2;have CC:=Hd (Ai1 hex hey);have z1:(a:Int)+i<dk.size:=Om;have z2:(b:Int)+i<dk.size:=Om;clear hex hey hs0;go_wp2_with fail
   go_big_region_o
   all_goals go_wp2
   go_roundg (n-(i+1))
   case measure=>omega
   case rel=>exact⟨i+1,swp di (a+i) (b+i),by go_num,Om,Om,HR.out.step Om Om,by rw[CC.1,CC.2]at HN;exact HN⟩
  ·have hltz:¬ (i:Int)<(n:Int):=Om
   go_wp2
   go_end0
   have e:i=n:=Om;subst e;exact⟨rfl,di,HR.out,HW.out⟩
end
section
open Go.Shelf Go.RowKit Go.Lib Go.Sort SS
theorem Bn{α:Type}[Inhabited α](enc:α->List Value)(w0 W:World)(blk off cap a b n sz:Nat)(d0 dk:Array α)(R:RowK enc 6 w0 blk off d0)(hs:dk.size=d0.size)(h:SWK enc 6 w0 blk off dk W)
  (hz:sz=dk.size) (hab:a+n<=b) (hb:b+n<=dk.size) (hsz:dk.size<4611686018427387904) (v:Value) :
  Calls Tryz.prog 290 #[.slice (some ⟨blk,off,none⟩) sz cap,.int .i64 a,.int .i64 b,.int .i64 n,v] W λe w'=>e=.returned (.tuple #[])/\∃ d',Iy dk a b n d'/\SWK enc 6 w0 blk off d' w':=by
 subst hz;exact Ef sp_w Tryz.func290 enc w0 W blk off cap a b n d0 dk R hs h hab hb hsz v
theorem Zhl{α:Type}[Inhabited α](enc:α->List Value)(w0 W:World)(blk off cap a m b sz:Nat)(d0 dk:Array α)(R:RowK enc 6 w0 blk off d0)(hs:dk.size=d0.size)(h:SWK enc 6 w0 blk off dk W)
  (hz:sz=dk.size) (ham:a<m) (hmb:m<b) (hb:b<=dk.size) (hsz:dk.size<4611686018427387904) (v:Value) :
  Calls Tryz.prog 278 #[.slice (some ⟨blk,off,none⟩) sz cap,.int .i64 a,.int .i64 m,.int .i64 b,v] W λe w'=>e=.returned (.tuple #[])/\∃ d',Vj dk a m b d'/\SWK enc 6 w0 blk off d' w':=by
 have RR:Aside _:=R;have HH:Aside _:=h;have HS:=Hd hs;have HZ:=Hd hz;clear R h hs hz;go_enter Tryz.func278,Tryz.ntmps278
 go_wp2
 go_loopg [10,11] (b-a) (λg1 vi vj wr=>∃ (i j:Nat) (di:Array α),vi=.int .i64 i/\vj=.int .i64 j/\0<i/\0<j/\i<=m-a/\j<=b-m/\i+j<=g1/\Hid (P6 dk a m b i j di)/\Hid (SWK enc 6 w0 blk off di wr))
 case atStart=>exact⟨m-a,b-m,dk,by go_num,by go_num,Om,Om,Nl _,Nl _,Om,P6.start dk Om Om,HH.out⟩
 case round =>
  obtain⟨i,j,di,rfl,rfl,hi,hj,hi2,hj2,hg,HR,HW⟩:=hrel;have hsd:di.size=dk.size:=HR.out.1;have HSD:=Hd hsd;have HZD:=Hd (HZ.out.trans hsd.symm)
  have CALL:∀ (W:World) (x y n:Nat) (xi yi ni:Int),xi=x->yi=y->ni=n->SWK enc 6 w0 blk off di W->x+n<=y->y+n<=dk.size ->
    Calls Tryz.prog 290 #[.slice (some ⟨blk,off,none⟩) sz cap,.int .i64 xi,.int .i64 yi,.int .i64 ni,v] W λe w'=>e=.returned (.tuple #[])/\∃ d',Iy di x y n d'/\SWK enc 6 w0 blk off d' w':=by
   rintro W x y n _ _ _ rfl rfl rfl h1 h2 h3;exact Bn enc w0 W blk off cap x y n sz d0 di RR.out (HSD.trans HS) h1 HZD h2 (by have:=HSD.out;omega) (by have:=HSD.out;omega) v
  clear hsd;by_cases he:i=j
  ·subst he;have C1:=CALL wr (m-i) m i (m-i) m i Om rfl rfl HW.out Om Om;clear CALL;go_wp2_with (go_at_call 290;refine C1.mono ?_;rintro e W1 ⟨rfl,d',h1,h2⟩)
   go_end0
   exact⟨rfl,d',HR.out.done Om Om h1,h2⟩
  ·have hez:¬ (i:Int)=(j:Int):=Om;have hez2:((i:Int)==(j:Int))=false:=(by simpa using hez);by_cases hgt:j<i
   ·have hgtz:(j:Int)<(i:Int):=Om;have C1:=CALL wr (m-i) m j (m-i) m j Om rfl rfl HW.out Om Om;clear CALL;go_wp2_with (go_at_call 290;refine C1.mono ?_;rintro e W1 ⟨rfl,d',h1,h2⟩;clear C1)
    go_roundg i
    case measure=>omega
    case rel=>exact⟨i-j,j,d',by go_num,rfl,Om,Om,Om,Om,Om,HR.out.left Om Om hgt h1,h2⟩
   ·have hgtz:¬ (j:Int)<(i:Int):=Om;have C1:=CALL wr (m-i) (m+j-i) i (m-i) (m+j-i) i Om Om rfl HW.out Om Om;clear CALL;go_wp2_with (go_at_call 290;refine C1.mono ?_;rintro e W1 ⟨rfl,d',h1,h2⟩;clear C1)
    go_roundg j
    case measure=>omega
    case rel=>exact⟨i,j-i,d',rfl,by go_num,Om,Om,Om,Om,Om,HR.out.right Om Om Om h1,h2⟩
end
section
open Go.Shelf Go.RowKit Go.Lib Go.Sort SS
structure El(κ:Type)(k:Nat) where
 key:κ
 rest:List Value
 hl:rest.length=k
 h1:∀ v∈rest,v.oneCell'=true
 tag:Nat
instance {κ:Type} [Inhabited κ] {k:Nat}:Inhabited (El κ k):=⟨⟨default,List.replicate k (.bool false),by simp,λv hv=>by rw[List.eq_of_mem_replicate hv];rfl,0⟩⟩
def El.enc{κ:Type}{k:Nat}(kv:κ->Value)(x:El κ k):List Value:=kv x.key::x.rest
theorem El.enc_len{κ:Type}{k:Nat}(kv:κ->Value)(x:El κ k):(x.enc kv).length=k+1:=by simp[El.enc,x.hl]
theorem El.enc_one{κ:Type}{k:Nat}{kv:κ->Value}(hkv:∀ q,(kv q).oneCell'=true)(x:El κ k):∀ v∈x.enc kv,v.oneCell'=true:=by
 intro v hv;rcases List.mem_cons.1 hv with rfl|hv
 ·exact hkv _
 ·exact x.h1 v hv
variable{α:Type}[Inhabited α]{enc:α->List Value}{k:Nat}{w0 W:World}{blk off:Nat}
theorem Pd(w:World)(blk:Nat)(f:Array Value->Array Value)(j:Nat):(mapBlock w blk f).heap[j]?=if j=blk then (w.heap[j]?).map (onCells f) else w.heap[j]?:=by
 unfold mapBlock;simp only[Array.getElem?_modify];by_cases h:blk=j
 ·rw[if_pos h,if_pos h.symm]
 ·rw[if_neg h,if_neg (λe=>h e.symm)]
theorem Zb0{dk:Array α}(h:SWK enc k w0 blk off dk W):Fr (λj=>j=blk) w0 W:=by
 obtain⟨n,os,rfl⟩:=h;unfold sortWorldK;refine⟨rfl,rfl,rfl,by rw[size_grow,size_putRowK];exact Nat.le_add_right _ _,λj hj hn=>?_⟩;have hsz:(putRowK enc k (Sort.ahead w0 n) blk off dk).heap.size=w0.heap.size:=by rw[size_putRowK];rfl
 rw[heap_grow_old _ _ (by rw[hsz];exact hj)];unfold putRowK putRow;rw[Pd,if_neg hn];rfl
theorem Qi(hk:∀ x,(enc x).length=k)(d:Array α):(flatK enc k d).toList=d.toList.flatMap enc:=by
 have hgen:∀ (l:List α),(l.flatMap enc).length=l.length*k:=by
  intro l
  induction l with
  | nil=>simp
  | cons x l ih=>rw[List.flatMap_cons,List.length_append,ih,hk,List.length_cons,Nat.add_mul,Nat.one_mul];omega
 have hget:∀ (l:List α) (i j:Nat) (hi:i<l.length) (hj:j<k),(l.flatMap enc)[i*k+j]?=(enc l[i])[j]?:=by
  intro l
  induction l with
  | nil=>intro i j hi;simp at hi
  | cons x l ih =>
   intro i j hi hj;rw[List.flatMap_cons]
   cases i with
   | zero =>
    rw[List.getElem?_append_left (by rw[hk];omega)];simp
   | succ i =>
    have hi':i<l.length:=(by simpa using hi);have e:(i+1)*k+j=k+(i*k+j):=by rw[Nat.add_mul,Nat.one_mul];omega
    rw[List.getElem?_append_right (by rw[hk];omega),hk,e,Nat.add_sub_cancel_left,ih i j hi' hj];simp
 apply List.ext_getElem?;intro t;by_cases ht:t<d.size*k
 ·have hk0:0<k:=by
   rcases Nat.eq_zero_or_pos k with h|h
   ·subst h;simp at ht
   ·exact h
  have h1:t / k<d.size:=by rw[Nat.div_lt_iff_lt_mul hk0];exact ht
  have h2:t % k<k:=Nat.mod_lt _ hk0;have e:t / k*k+t % k=t:=by rw[Nat.mul_comm];exact Nat.div_add_mod t k
  have e1:=hget d.toList (t / k) (t % k) (by simpa using h1) h2;rw[e]at e1;rw[e1,Array.getElem?_toList,Array.getElem?_eq_getElem (by rw[size_flatK];exact ht),Array.getElem_toList];have e2:=get_flatK enc k d t ht;rw[getElem!_pos _ t (by rw[size_flatK];exact ht)]at e2;rw[e2,getElem!_pos d (t / k) h1,getElem!_pos (enc _) (t % k) (by rw[hk];exact h2),Ge (by rw[hk];exact h2)]
 ·rw[List.getElem?_eq_none (by rw[Array.length_toList,size_flatK];omega),List.getElem?_eq_none (by rw[hgen,Array.length_toList];omega)]
theorem Hb(F cur:Array Value)(h:F.size<=cur.size):(putCells id 0 F cur).toList.take F.size=F.toList/\(putCells id 0 F cur).size=cur.size:=by
 refine⟨?_,by simp[putCells]⟩;apply List.ext_getElem?;intro t;by_cases ht:t<F.size
 ·rw[List.getElem?_take_of_lt ht,Array.getElem?_toList,Array.getElem?_toList];unfold putCells;rw[Array.getElem?_mapIdx,Array.getElem?_eq_getElem ((Om:t<cur.size)),Array.getElem?_eq_getElem ht];simp[ht]
 ·rw[List.getElem?_eq_none (by rw[List.length_take];omega),List.getElem?_eq_none (by rw[Array.length_toList];omega)]
theorem Jr{B T n g cap:Nat}{xs:List Value}(h:W.ownsRow B T k (.slice (some ⟨g,0,none⟩) n cap) n xs)(hk:∀ x,(enc x).length=k)(h1:∀ x,∀ v∈enc x,v.oneCell'=true){d:Array α}(hd:xs=d.toList.flatMap enc)(hn:d.size=n):RowK enc k W g 0 d:=by
 obtain⟨hl,⟨e,_⟩|⟨g',cap',cur,e,hb,hc,h2,h3,h4,h5⟩⟩:=h
 ·cases e
 ·simp only[Value.slice.injEq,Option.some.injEq,Addr.mk.injEq,and_true,true_and]at e;obtain⟨rfl,rfl⟩:=e;have hlt:g<W.heap.size:=(Gs1.1 hc).1;refine⟨hk,h1,λj hj=>?_,hlt⟩;rw[size_flatK]at hj;have hj2:j<n*k:=by rw[<- hn];exact hj
  have hcur:j<cur.size:=by
   rw[h4];exact Nat.lt_of_lt_of_le hj2 (Nat.mul_le_mul_right _ h2)
  have e1:cur[j]=(flatK enc k d)[j]!:=by
   have:(cur.toList.take (n*k))[j]?=(flatK enc k d).toList[j]?:=(by rw[h5,hd,Qi hk]);rw[List.getElem?_take_of_lt hj2,Array.getElem?_toList,Array.getElem?_toList,Array.getElem?_eq_getElem hcur,Array.getElem?_eq_getElem (by rw[size_flatK];exact hj)]at this;rw[getElem!_pos _ j (by rw[size_flatK];exact hj)];exact Option.some.inj this
  constructor
  ·simp only[World.cell?,hc,Nat.zero_add];simp[hcur,e1]
  ·simp[World.frozen?,hc]
theorem E9{B T n g cap:Nat}{xs:List Value}(h:w0.ownsRow B T k (.slice (some ⟨g,0,none⟩) n cap) n xs)(hk:∀ x,(enc x).length=k){d:Array α}(hn:d.size=n)(hs:SWK enc k w0 g 0 d W):W.ownsRow B T k (.slice (some ⟨g,0,none⟩) n cap) n (d.toList.flatMap enc):=by
 obtain⟨hl,⟨e,_⟩|⟨g',cap',cur,e,hb,hc,h2,h3,h4,h5⟩⟩:=h
 ·cases e
 ·simp only[Value.slice.injEq,Option.some.injEq,Addr.mk.injEq,and_true,true_and]at e;obtain⟨rfl,rfl⟩:=e;have hlt:g<w0.heap.size:=(Gs1.1 hc).1;obtain⟨m,os,rfl⟩:=hs;have hF:(flatK enc k d).size=n*k:=by rw[size_flatK,hn]
  have hle:(flatK enc k d).size<=cur.size:=by rw[hF,h4];exact Nat.mul_le_mul_right _ h2
  obtain⟨p1,p2⟩:=Hb (flatK enc k d) cur hle;rw[hF,Qi hk]at p1;refine⟨?_,.inr ⟨g,cap,putCells id 0 (flatK enc k d) cur,rfl,hb,?_,h2,h3,by rw[p2,h4],p1⟩⟩
  ·rw[<- Qi hk,Array.length_toList,hF]
  ·unfold sortWorldK;rw[heap_grow_old _ _ (by rw[size_putRowK];exact hlt)];unfold putRowK putRow;rw[Pd,if_pos rfl];show (w0.heap[g]?).map _=_;rw[hc];rfl
end
section
open Go.Shelf Go.RowKit Go.Lib Go.Sort SS
structure SPu(P:Program)(k:Nat):Prop where
 mixed:P.follows .mixedOrders=true
 t0:P.underlying 0=some (.tuple #[])
 a0:∀ w,(isAgg 0).run P w=.ok false w
 z0:∀ w,(Go.sizeOf 0).run P w=.ok 1 w
 v0:∀ w,(zeroValue 0).run P w=.ok (.tuple #[]) w
 t3:P.underlying 3=some (.int .i64)
 a3:∀ w,(isAgg 3).run P w=.ok false w
 z3:∀ w,(Go.sizeOf 3).run P w=.ok 1 w
 v3:∀ w,(zeroValue 3).run P w=.ok (.int .i64 0) w
 t4:P.underlying 4=some .bool
 a4:∀ w,(isAgg 4).run P w=.ok false w
 z4:∀ w,(Go.sizeOf 4).run P w=.ok 1 w
 v4:∀ w,(zeroValue 4).run P w=.ok (.bool false) w
 t246:P.underlying 271=some (.int .u64)
 a246:∀ w,(isAgg 271).run P w=.ok false w
 z246:∀ w,(Go.sizeOf 271).run P w=.ok 1 w
 v246:∀ w,(zeroValue 271).run P w=.ok (.int .u64 0) w
 tS:P.underlying 26=some (.slice 36)
 aS:∀ w,(isAgg 26).run P w=.ok false w
 zS:∀ w,(Go.sizeOf 26).run P w=.ok 1 w
 vS:∀ w,(zeroValue 26).run P w=.ok (.slice none 0 0) w
 tF:P.underlying 173=some (.func #[36,36] #[3] false)
 aF:∀ w,(isAgg 173).run P w=.ok false w
 zF:∀ w,(Go.sizeOf 173).run P w=.ok 1 w
 vF:∀ w,(zeroValue 173).run P w=.ok .nilFunc w
 aE:∀ w,(isAgg 36).run P w=.ok true w
 zE:∀ w,(Go.sizeOf 36).run P w=.ok k w
theorem sp_u:SPu Tryz.prog 5:=by
 constructor<;>first|kernel_rfl|(intro w;kernel_rfl)
theorem Eg{P:Program}{k:Nat}(L:SPu P k)(F:P.funcs[245]?=some Tryz.f245){α:Type}[Inhabited α](enc:α->List Value)(w0 W:World)(blk off cap a b n:Nat)(d0 dk:Array α)(R:RowK enc k w0 blk off d0)(hs:dk.size=d0.size)(h:SWK enc k w0 blk off dk W)
  (hab:a+n<=b) (hb:b+n<=dk.size) (hsz:dk.size<4611686018427387904) (v:Value) :
  Calls P 245 #[.slice (some ⟨blk,off,none⟩) dk.size cap,.int .i64 a,.int .i64 b,.int .i64 n,v] W λe w'=>e=.returned (.tuple #[])/\∃ d',Iy dk a b n d'/\SWK enc k w0 blk off d' w':=by
 have mixed:=L.mixed;have t0:=L.t0;have a0:=L.a0;have z0:=L.z0;have v0:=L.v0;have t3:=L.t3;have a3:=L.a3;have z3:=L.z3;have v3:=L.v3;have t4:=L.t4;have a4:=L.a4;have z4:=L.z4;have v4:=L.v4;have t246:=L.t246;have a246:=L.a246;have z246:=L.z246;have v246:=L.v246;have tS:=L.tS;have aS:=L.aS;have zS:=L.zS;have vS:=L.vS;have tF:=L.tF;have aF:=L.aF;have zF:=L.zF;have vF:=L.vF;have aE:=L.aE;have zE:=L.zE;have uS:=run_underlying L.tS;have RR:Aside _:=R;have HH:Aside _:=h;have HS:=Hd hs;clear R h hs L;go_enter F,Tryz.ntmps245
 go_wp2
 go_loopg [10] n (λg1 vi wr=>∃ (i:Nat) (di:Array α),vi=.int .i64 i/\i<=n/\n<=i+g1/\Hid (Iy dk a b i di)/\Hid (SWK enc k w0 blk off di wr))
 case atStart=>exact⟨0,dk,rfl,Nat.zero_le _,Om,Iy.zero _ _ _,HH.out⟩
 case round =>
  obtain⟨i,di,rfl,hi,hg,HR,HW⟩:=hrel;by_cases hlt:i<n
  ·have hltz:(i:Int)<(n:Int):=Om;have hsd:di.size=dk.size:=HR.out.1;have hs0:di.size=d0.size:=hsd.trans HS;have x1:a+i<di.size:=Om;have x2:b+i<di.size:=Om;obtain⟨ex,hex⟩:∃ c,enc di[a+i]! = c:=⟨_,rfl⟩;obtain⟨ey,hey⟩:∃ c,enc di[b+i]! = c:=⟨_,rfl⟩;have l1:=HW.out.ld1 RR.out hs0 P (b+i) x2;have l2:=HW.out.ld1 RR.out hs0 P (a+i) x1;have s1:=HW.out.st1 RR.out hs0 P (a+i) x1 di[b+i]!;have s2:=HW.out.st2 RR.out hs0 P (a+i) (b+i) x1 x2 di[b+i]! di[a+i]!;have HN:=Hd (HW.out.swapped RR.out (a+i) (b+i) x1 x2);have y1:ex.length=k:=by rw[<- hex];exact RR.out.hk _
   have y2:ey.length=k:=by rw[<- hey];exact RR.out.hk _
   rw[hex]at l2 s2;rw[hey]at l1 s1 s2;have CC:=Hd (Ai1 hex hey);have z1:(a:Int)+i<dk.size:=Om;have z2:(b:Int)+i<dk.size:=Om;clear hex hey hs0;go_wp2_with fail
   go_big_region_o
   all_goals go_wp2
   go_roundg (n-(i+1))
   case measure=>omega
   case rel=>exact⟨i+1,swp di (a+i) (b+i),by go_num,Om,Om,HR.out.step Om Om,by rw[CC.1,CC.2]at HN;exact HN⟩
  ·have hltz:¬ (i:Int)<(n:Int):=Om
   go_wp2
   go_end0
   have e:i=n:=Om;subst e;exact⟨rfl,di,HR.out,HW.out⟩
end
section
open Go.Shelf Go.RowKit Go.Lib Go.Sort SS
theorem Bo{α:Type}[Inhabited α](enc:α->List Value)(w0 W:World)(blk off cap a b n sz:Nat)(d0 dk:Array α)(R:RowK enc 5 w0 blk off d0)(hs:dk.size=d0.size)(h:SWK enc 5 w0 blk off dk W)
  (hz:sz=dk.size) (hab:a+n<=b) (hb:b+n<=dk.size) (hsz:dk.size<4611686018427387904) (v:Value) :
  Calls Tryz.prog 245 #[.slice (some ⟨blk,off,none⟩) sz cap,.int .i64 a,.int .i64 b,.int .i64 n,v] W λe w'=>e=.returned (.tuple #[])/\∃ d',Iy dk a b n d'/\SWK enc 5 w0 blk off d' w':=by
 subst hz;exact Eg sp_u Tryz.func245 enc w0 W blk off cap a b n d0 dk R hs h hab hb hsz v
theorem Zhm{α:Type}[Inhabited α](enc:α->List Value)(w0 W:World)(blk off cap a m b sz:Nat)(d0 dk:Array α)(R:RowK enc 5 w0 blk off d0)(hs:dk.size=d0.size)(h:SWK enc 5 w0 blk off dk W)
  (hz:sz=dk.size) (ham:a<m) (hmb:m<b) (hb:b<=dk.size) (hsz:dk.size<4611686018427387904) (v:Value) :
  Calls Tryz.prog 203 #[.slice (some ⟨blk,off,none⟩) sz cap,.int .i64 a,.int .i64 m,.int .i64 b,v] W λe w'=>e=.returned (.tuple #[])/\∃ d',Vj dk a m b d'/\SWK enc 5 w0 blk off d' w':=by
 have RR:Aside _:=R;have HH:Aside _:=h;have HS:=Hd hs;have HZ:=Hd hz;clear R h hs hz;go_enter Tryz.func203,Tryz.ntmps203
 go_wp2
 go_loopg [10,11] (b-a) (λg1 vi vj wr=>∃ (i j:Nat) (di:Array α),vi=.int .i64 i/\vj=.int .i64 j/\0<i/\0<j/\i<=m-a/\j<=b-m/\i+j<=g1/\Hid (P6 dk a m b i j di)/\Hid (SWK enc 5 w0 blk off di wr))
 case atStart=>exact⟨m-a,b-m,dk,by go_num,by go_num,Om,Om,Nl _,Nl _,Om,P6.start dk Om Om,HH.out⟩
 case round =>
  obtain⟨i,j,di,rfl,rfl,hi,hj,hi2,hj2,hg,HR,HW⟩:=hrel;have hsd:di.size=dk.size:=HR.out.1;have HSD:=Hd hsd;have HZD:=Hd (HZ.out.trans hsd.symm)
  have CALL:∀ (W:World) (x y n:Nat) (xi yi ni:Int),xi=x->yi=y->ni=n->SWK enc 5 w0 blk off di W->x+n<=y->y+n<=dk.size ->
    Calls Tryz.prog 245 #[.slice (some ⟨blk,off,none⟩) sz cap,.int .i64 xi,.int .i64 yi,.int .i64 ni,v] W λe w'=>e=.returned (.tuple #[])/\∃ d',Iy di x y n d'/\SWK enc 5 w0 blk off d' w':=by
   rintro W x y n _ _ _ rfl rfl rfl h1 h2 h3;exact Bo enc w0 W blk off cap x y n sz d0 di RR.out (HSD.trans HS) h1 HZD h2 (by have:=HSD.out;omega) (by have:=HSD.out;omega) v
  clear hsd;by_cases he:i=j
  ·subst he;have C1:=CALL wr (m-i) m i (m-i) m i Om rfl rfl HW.out Om Om;clear CALL;go_wp2_with (go_at_call 245;refine C1.mono ?_;rintro e W1 ⟨rfl,d',h1,h2⟩)
   go_end0
   exact⟨rfl,d',HR.out.done Om Om h1,h2⟩
  ·have hez:¬ (i:Int)=(j:Int):=Om;have hez2:((i:Int)==(j:Int))=false:=(by simpa using hez);by_cases hgt:j<i
   ·have hgtz:(j:Int)<(i:Int):=Om;have C1:=CALL wr (m-i) m j (m-i) m j Om rfl rfl HW.out Om Om;clear CALL;go_wp2_with (go_at_call 245;refine C1.mono ?_;rintro e W1 ⟨rfl,d',h1,h2⟩;clear C1)
    go_roundg i
    case measure=>omega
    case rel=>exact⟨i-j,j,d',by go_num,rfl,Om,Om,Om,Om,Om,HR.out.left Om Om hgt h1,h2⟩
   ·have hgtz:¬ (j:Int)<(i:Int):=Om;have C1:=CALL wr (m-i) (m+j-i) i (m-i) (m+j-i) i Om Om rfl HW.out Om Om;clear CALL;go_wp2_with (go_at_call 245;refine C1.mono ?_;rintro e W1 ⟨rfl,d',h1,h2⟩;clear C1)
    go_roundg j
    case measure=>omega
    case rel=>exact⟨i,j-i,d',rfl,by go_num,Om,Om,Om,Om,Om,HR.out.right Om Om Om h1,h2⟩
end
section
open Go.Shelf Go.RowKit Go.Lib Go.Sort SS
structure SPr(P:Program)(k:Nat):Prop where
 mixed:P.follows .mixedOrders=true
 t0:P.underlying 0=some (.tuple #[])
 a0:∀ w,(isAgg 0).run P w=.ok false w
 z0:∀ w,(Go.sizeOf 0).run P w=.ok 1 w
 v0:∀ w,(zeroValue 0).run P w=.ok (.tuple #[]) w
 t3:P.underlying 3=some (.int .i64)
 a3:∀ w,(isAgg 3).run P w=.ok false w
 z3:∀ w,(Go.sizeOf 3).run P w=.ok 1 w
 v3:∀ w,(zeroValue 3).run P w=.ok (.int .i64 0) w
 t4:P.underlying 4=some .bool
 a4:∀ w,(isAgg 4).run P w=.ok false w
 z4:∀ w,(Go.sizeOf 4).run P w=.ok 1 w
 v4:∀ w,(zeroValue 4).run P w=.ok (.bool false) w
 t246:P.underlying 271=some (.int .u64)
 a246:∀ w,(isAgg 271).run P w=.ok false w
 z246:∀ w,(Go.sizeOf 271).run P w=.ok 1 w
 v246:∀ w,(zeroValue 271).run P w=.ok (.int .u64 0) w
 tS:P.underlying 155=some (.slice 160)
 aS:∀ w,(isAgg 155).run P w=.ok false w
 zS:∀ w,(Go.sizeOf 155).run P w=.ok 1 w
 vS:∀ w,(zeroValue 155).run P w=.ok (.slice none 0 0) w
 tF:P.underlying 330=some (.func #[160,160] #[3] false)
 aF:∀ w,(isAgg 330).run P w=.ok false w
 zF:∀ w,(Go.sizeOf 330).run P w=.ok 1 w
 vF:∀ w,(zeroValue 330).run P w=.ok .nilFunc w
 aE:∀ w,(isAgg 160).run P w=.ok true w
 zE:∀ w,(Go.sizeOf 160).run P w=.ok k w
theorem sp_r:SPr Tryz.prog 4:=by
 constructor<;>first|kernel_rfl|(intro w;kernel_rfl)
theorem Eh{P:Program}{k:Nat}(L:SPr P k)(F:P.funcs[294]?=some Tryz.f294){α:Type}[Inhabited α](enc:α->List Value)(w0 W:World)(blk off cap a b n:Nat)(d0 dk:Array α)(R:RowK enc k w0 blk off d0)(hs:dk.size=d0.size)(h:SWK enc k w0 blk off dk W)
  (hab:a+n<=b) (hb:b+n<=dk.size) (hsz:dk.size<4611686018427387904) (v:Value) :
  Calls P 294 #[.slice (some ⟨blk,off,none⟩) dk.size cap,.int .i64 a,.int .i64 b,.int .i64 n,v] W λe w'=>e=.returned (.tuple #[])/\∃ d',Iy dk a b n d'/\SWK enc k w0 blk off d' w':=by
 have mixed:=L.mixed;have t0:=L.t0;have a0:=L.a0;have z0:=L.z0;have v0:=L.v0;have t3:=L.t3;have a3:=L.a3;have z3:=L.z3;have v3:=L.v3;have t4:=L.t4;have a4:=L.a4;have z4:=L.z4;have v4:=L.v4;have t246:=L.t246;have a246:=L.a246;have z246:=L.z246;have v246:=L.v246;have tS:=L.tS;have aS:=L.aS;have zS:=L.zS;have vS:=L.vS;have tF:=L.tF;have aF:=L.aF;have zF:=L.zF;have vF:=L.vF;have aE:=L.aE;have zE:=L.zE;have uS:=run_underlying L.tS;have RR:Aside _:=R;have HH:Aside _:=h;have HS:=Hd hs;clear R h hs L;go_enter F,Tryz.ntmps294
 go_wp2
 go_loopg [10] n (λg1 vi wr=>∃ (i:Nat) (di:Array α),vi=.int .i64 i/\i<=n/\n<=i+g1/\Hid (Iy dk a b i di)/\Hid (SWK enc k w0 blk off di wr))
 case atStart=>exact⟨0,dk,rfl,Nat.zero_le _,Om,Iy.zero _ _ _,HH.out⟩
 case round =>
  obtain⟨i,di,rfl,hi,hg,HR,HW⟩:=hrel;by_cases hlt:i<n
  ·have hltz:(i:Int)<(n:Int):=Om;have hsd:di.size=dk.size:=HR.out.1;have hs0:di.size=d0.size:=hsd.trans HS;have x1:a+i<di.size:=Om;have x2:b+i<di.size:=Om;obtain⟨ex,hex⟩:∃ c,enc di[a+i]! = c:=⟨_,rfl⟩;obtain⟨ey,hey⟩:∃ c,enc di[b+i]! = c:=⟨_,rfl⟩;have l1:=HW.out.ld1 RR.out hs0 P (b+i) x2;have l2:=HW.out.ld1 RR.out hs0 P (a+i) x1;have s1:=HW.out.st1 RR.out hs0 P (a+i) x1 di[b+i]!;have s2:=HW.out.st2 RR.out hs0 P (a+i) (b+i) x1 x2 di[b+i]! di[a+i]!;have HN:=Hd (HW.out.swapped RR.out (a+i) (b+i) x1 x2);have y1:ex.length=k:=by rw[<- hex];exact RR.out.hk _
   have y2:ey.length=k:=by rw[<- hey];exact RR.out.hk _
   rw[hex]at l2 s2;rw[hey]at l1 s1 s2;have CC:=Hd (Ai1 hex hey);have z1:(a:Int)+i<dk.size:=Om;have z2:(b:Int)+i<dk.size:=Om;clear hex hey hs0;go_wp2_with fail
   go_big_region_o
   all_goals go_wp2
   go_roundg (n-(i+1))
   case measure=>omega
   case rel=>exact⟨i+1,swp di (a+i) (b+i),by go_num,Om,Om,HR.out.step Om Om,by rw[CC.1,CC.2]at HN;exact HN⟩
  ·have hltz:¬ (i:Int)<(n:Int):=Om
   go_wp2
   go_end0
   have e:i=n:=Om;subst e;exact⟨rfl,di,HR.out,HW.out⟩
end
section
open Go.Shelf Go.RowKit Go.Lib Go.Sort SS
theorem Bp{α:Type}[Inhabited α](enc:α->List Value)(w0 W:World)(blk off cap a b n sz:Nat)(d0 dk:Array α)(R:RowK enc 4 w0 blk off d0)(hs:dk.size=d0.size)(h:SWK enc 4 w0 blk off dk W)
  (hz:sz=dk.size) (hab:a+n<=b) (hb:b+n<=dk.size) (hsz:dk.size<4611686018427387904) (v:Value) :
  Calls Tryz.prog 294 #[.slice (some ⟨blk,off,none⟩) sz cap,.int .i64 a,.int .i64 b,.int .i64 n,v] W λe w'=>e=.returned (.tuple #[])/\∃ d',Iy dk a b n d'/\SWK enc 4 w0 blk off d' w':=by
 subst hz;exact Eh sp_r Tryz.func294 enc w0 W blk off cap a b n d0 dk R hs h hab hb hsz v
theorem Zhn{α:Type}[Inhabited α](enc:α->List Value)(w0 W:World)(blk off cap a m b sz:Nat)(d0 dk:Array α)(R:RowK enc 4 w0 blk off d0)(hs:dk.size=d0.size)(h:SWK enc 4 w0 blk off dk W)
  (hz:sz=dk.size) (ham:a<m) (hmb:m<b) (hb:b<=dk.size) (hsz:dk.size<4611686018427387904) (v:Value) :
  Calls Tryz.prog 280 #[.slice (some ⟨blk,off,none⟩) sz cap,.int .i64 a,.int .i64 m,.int .i64 b,v] W λe w'=>e=.returned (.tuple #[])/\∃ d',Vj dk a m b d'/\SWK enc 4 w0 blk off d' w':=by
 have RR:Aside _:=R;have HH:Aside _:=h;have HS:=Hd hs;have HZ:=Hd hz;clear R h hs hz;go_enter Tryz.func280,Tryz.ntmps280
 go_wp2
 go_loopg [10,11] (b-a) (λg1 vi vj wr=>∃ (i j:Nat) (di:Array α),vi=.int .i64 i/\vj=.int .i64 j/\0<i/\0<j/\i<=m-a/\j<=b-m/\i+j<=g1/\Hid (P6 dk a m b i j di)/\Hid (SWK enc 4 w0 blk off di wr))
 case atStart=>exact⟨m-a,b-m,dk,by go_num,by go_num,Om,Om,Nl _,Nl _,Om,P6.start dk Om Om,HH.out⟩
 case round =>
  obtain⟨i,j,di,rfl,rfl,hi,hj,hi2,hj2,hg,HR,HW⟩:=hrel;have hsd:di.size=dk.size:=HR.out.1;have HSD:=Hd hsd;have HZD:=Hd (HZ.out.trans hsd.symm)
  have CALL:∀ (W:World) (x y n:Nat) (xi yi ni:Int),xi=x->yi=y->ni=n->SWK enc 4 w0 blk off di W->x+n<=y->y+n<=dk.size ->
    Calls Tryz.prog 294 #[.slice (some ⟨blk,off,none⟩) sz cap,.int .i64 xi,.int .i64 yi,.int .i64 ni,v] W λe w'=>e=.returned (.tuple #[])/\∃ d',Iy di x y n d'/\SWK enc 4 w0 blk off d' w':=by
   rintro W x y n _ _ _ rfl rfl rfl h1 h2 h3;exact Bp enc w0 W blk off cap x y n sz d0 di RR.out (HSD.trans HS) h1 HZD h2 (by have:=HSD.out;omega) (by have:=HSD.out;omega) v
  clear hsd;by_cases he:i=j
  ·subst he;have C1:=CALL wr (m-i) m i (m-i) m i Om rfl rfl HW.out Om Om;clear CALL;go_wp2_with (go_at_call 294;refine C1.mono ?_;rintro e W1 ⟨rfl,d',h1,h2⟩)
   go_end0
   exact⟨rfl,d',HR.out.done Om Om h1,h2⟩
  ·have hez:¬ (i:Int)=(j:Int):=Om;have hez2:((i:Int)==(j:Int))=false:=(by simpa using hez);by_cases hgt:j<i
   ·have hgtz:(j:Int)<(i:Int):=Om;have C1:=CALL wr (m-i) m j (m-i) m j Om rfl rfl HW.out Om Om;clear CALL;go_wp2_with (go_at_call 294;refine C1.mono ?_;rintro e W1 ⟨rfl,d',h1,h2⟩;clear C1)
    go_roundg i
    case measure=>omega
    case rel=>exact⟨i-j,j,d',by go_num,rfl,Om,Om,Om,Om,Om,HR.out.left Om Om hgt h1,h2⟩
   ·have hgtz:¬ (j:Int)<(i:Int):=Om;have C1:=CALL wr (m-i) (m+j-i) i (m-i) (m+j-i) i Om Om rfl HW.out Om Om;clear CALL;go_wp2_with (go_at_call 294;refine C1.mono ?_;rintro e W1 ⟨rfl,d',h1,h2⟩;clear C1)
    go_roundg j
    case measure=>omega
    case rel=>exact⟨i,j-i,d',rfl,by go_num,Om,Om,Om,Om,Om,HR.out.right Om Om Om h1,h2⟩
end
end Go.Proofs.YtlfoalomaofejaaGreatDoor
