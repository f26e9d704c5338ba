/- The stable sort (slices.stableCmpFunc, slices.SortStableFunc). (Printed by wip/gen_sort.py.) · A sor -/
import Derived.Test.YtoliamijgmifkaaGreatDoorF9
import Derived.Laws.AppendOwn
set_option linter.all false
set_option maxRecDepth 100000
set_option maxHeartbeats 4000000
namespace Go.Proofs.YtoliamijgmifkaaGreatDoor
section
open Go.Shelf Go.RowKit Go.Lib Go.Sort SS
theorem Cw{P:Program}{α:Type}[Inhabited α]{enc:α->List Value}{k:Nat}{w0 W:World}{blk off g size:Nat}{cb:Array Value}{cf:α->α->Int}{dk:Array α}(hC:CmpLays P g cb enc k cf blk off size w0)(h:SWK enc k w0 blk off dk W)(hblk:blk<w0.heap.size)(hs:dk.size=size):CmpLays P g cb enc k cf blk off size W:=by
 intro m os dj hj x y;obtain⟨n',os',e⟩:=h.on hblk m dj os (hj.trans hs.symm);rw[e];exact hC n' os' dj hj x y
def Zj6{α:Type}[Inhabited α](P:Program)(enc:α->List Value)(k:Nat)(w0:World)(blk off cap sz g:Nat)(cb:Array Value)(cf:α->α->Int)(d0:Array α):Prop :=
 ∀ (W:World) (a b:Nat) (ai bi:Int) (dk:Array α),ai=a->bi=b->a<=b->b<=dk.size->dk.size=d0.size->SWK enc k w0 blk off dk W ->
  Calls P 145 #[.slice (some ⟨blk,off,none⟩) sz cap,.int .i64 ai,.int .i64 bi,.func (.func g) #[] cb] W fun e w'=>e = .returned (.tuple #[])/\SWK enc k w0 blk off (insertionSort (ltOf cf) dk a b) w'
theorem Dv{α:Type}[Inhabited α](enc:α->List Value)(w0:World)(blk off cap g:Nat)(cb:Array Value)(cf:α->α->Int)(d0:Array α)(R:RowK enc 6 w0 blk off d0)
  (eg:∀ args w,(callFunc g args).run Tryz.prog w = .ok (.enter g args) w) (hcmp:CmpLays Tryz.prog g cb enc 6 cf blk off d0.size w0) (hS:SWO (ltOf cf)) (hsz:d0.size<4611686018427387904) :
  Zj6 Tryz.prog enc 6 w0 blk off cap d0.size g cb cf d0:=by
 rintro W a b ai bi dk ha hb hab hbk hs h;subst ha hb;have:=AnyQ.insertionSortCmpFunc layInsw 6 (fun w=>sp_w.aE w) (fun w=>sp_w.zE w) enc R.hk R.h1 cf g cb blk off cap a b dk W eg (by rw[hs];exact Cw hcmp h R.hblk hs) (h.holds R.hblk R.hH hs) (h.lt R.hblk) hab hbk (by omega);rw[hs]at this;refine Calls.mono this ?_;rintro e w' ⟨rfl,n,os,rfl⟩;exact⟨rfl,h.on R.hblk n _ os (insertionSort_holds hS dk a b hab hbk).1.1⟩
theorem Zbn{α:Type}[Inhabited α](enc:α->List Value)(w0:World)(blk off cap g:Nat)(cb:Array Value)(cf:α->α->Int)(tag:α->Nat)(d0:Array α)(R:RowK enc 6 w0 blk off d0)
  (eg:∀ args w,(callFunc g args).run Tryz.prog w = .ok (.enter g args) w) (hcmp:CmpLays Tryz.prog g cb enc 6 cf blk off d0.size w0) (hS:SWO (ltOf cf)) (hsz:d0.size<4611686018427387904) :
  ∀ N,No Tryz.prog enc 6 w0 blk off cap d0.size g cb d0 (lt2 (ltOf cf) tag) tag N
 | 0=>by rintro W a m b _ _ _ dk rfl rfl rfl hN;omega
 | N+1=>Ek sp_w Tryz.func146 (fun _ _=>by kernel_rfl) (fun _ _=>by kernel_rfl) enc w0 blk off cap g cb cf tag d0 R eg hcmp hS hsz
   (by
     rintro W a m b _ _ _ dk rfl rfl rfl h1 h2 h3 h4 h5
     exact Zfa enc w0 W blk off cap a m b d0.size d0 dk R h4 h5 h4.symm h1 h2 h3 (by omega) _) N (Zbn enc w0 blk off cap g cb cf tag d0 R eg hcmp hS hsz N)
theorem Zey{α:Type}[Inhabited α](enc:α->List Value)(w0:World)(blk off cap g:Nat)(cb:Array Value)(cf:α->α->Int)(tag:α->Nat)(d0:Array α)(R:RowK enc 6 w0 blk off d0)
  (eg:∀ args w,(callFunc g args).run Tryz.prog w = .ok (.enter g args) w) (hcmp:CmpLays Tryz.prog g cb enc 6 cf blk off d0.size w0) (hS:SWO (ltOf cf)) (hsz:d0.size<1152921504606846976) (ht:∀ i,i<d0.size->tag d0[i]! = i) :
  Calls Tryz.prog 124 #[.slice (some ⟨blk,off,none⟩) d0.size cap,.int .i64 d0.size,.func (.func g) #[] cb] w0 fun e w'=>e = .returned (.tuple #[])/\∃ d',d'.toList=Z2 (ltOf cf) d0.toList/\d'.size=d0.size/\SWK enc 6 w0 blk off d' w':=by
 have INS:=Dv enc w0 blk off cap g cb cf d0 R eg hcmp hS (by omega);have MRG:=fun N=>Zbn enc w0 blk off cap g cb cf tag d0 R eg hcmp hS (by omega) N
 have HS:Aside _:=hS;have H0:=Lib.hid (SWK.start R.hH);obtain⟨n,hn⟩:∃ n,n=d0.size:=⟨_,rfl⟩;rw[<- hn]at hsz ht INS⊢;have MRG:Aside (∀ N,No Tryz.prog enc 6 w0 blk off cap n g cb d0 (lt2 (ltOf cf) tag) tag N):=fun N=>by rw[hn];exact MRG N
 have INS:Aside _:=INS;have HT:Aside _:=ht;have HN:=Lib.hid hn;clear R hcmp hS ht eg hn;go_enter Tryz.func124,Tryz.ntmps124
 go_wp2_with fail
 go_loopg [7,8] n (fun g1 va vb wr=>∃ (t A:Nat) (di:Array α),Hid (A=t*20)/\va = .int .i64 A/\vb = .int .i64 ((A:Int)+20)/\A<=n/\n<=A+g1/\Hid (Ui (lt2 (ltOf cf) tag) tag n t d0 di)/\Hid (SWK enc 6 w0 blk off di wr))
 case atStart=>exact⟨0,0,d0,rfl,rfl,rfl,by omega,by omega,Ui.start,H0⟩
 case round =>
  obtain⟨t,A,di,HA,rfl,rfl,htn,hg,HF,HW⟩:=hrel;have hsd:Hid (di.size=d0.size):=HF.out.perm.1;by_cases hlt:A+20<=n
  ·have hltz:(A:Int)+20<=(n:Int):=by omega
   have C1:=INS.out wr A (A+20) A ((A:Int)+20) di rfl (by omega) (by omega) (by have:=hsd.out;have:=HN.out;omega) hsd.out HW.out;have M:=Lib.hid (Wg (tag:=tag) HS.out di A (A+20) (by omega) (by have:=hsd.out;have:=HN.out;omega) (by rw[HA.out];exact HF.out.tags HN HT.out (by have:=HA.out;omega)));go_wp2_with (go_at_call 145;refine C1.mono ?_;rintro e W1 ⟨rfl,h2⟩;clear C1)
   go_roundg (n-(A+20))
   case measure=>omega
   case rel=>exact⟨t+1,A+20,_,by have:=HA.out;show _=_;omega,by go_num,by go_num,by omega,by omega,HF.out.step HN HT.out (by have:=HA.out;omega) (by rw[<- HA.out];exact M),h2⟩
  ·have hltz:¬ (A:Int)+20<=(n:Int):=by omega
   have C1:=INS.out wr A n A n di rfl rfl (by omega) (by have:=hsd.out;have:=HN.out;omega) hsd.out HW.out;have M:=Lib.hid (Wg (tag:=tag) HS.out di A n (by omega) (by have:=hsd.out;have:=HN.out;omega) (by rw[HA.out];exact HF.out.tags HN HT.out (Nat.le_refl _)));have L0:Hid (Ta (lt2 (ltOf cf) tag) tag n 20 d0 (insertionSort (ltOf cf) di A n)):=HF.out.close HN HT.out (by have:=HA.out;omega) (by have:=HA.out;omega) (by rw[<- HA.out];exact M);clear M;generalize insertionSort (ltOf cf) di A n=dz at C1 L0;go_wp2_with (go_at_call 145;refine C1.mono ?_;rintro e W1 ⟨rfl,h2⟩;clear C1;have H2:=Lib.hid h2;clear h2)
   go_loopg [6] n (fun g1 vb wr=>∃ (bs:Nat) (di:Array α),vb = .int .i64 bs/\20<=bs/\n<=bs+g1/\bs<=n+n+20/\Hid (Ta (lt2 (ltOf cf) tag) tag n bs d0 di)/\Hid (SWK enc 6 w0 blk off di wr))
   case atStart=>exact⟨20,dz,rfl,by omega,by omega,by omega,L0,H2⟩
   case round =>
    clear hsd HF HW L0 H2;obtain⟨bs,di,rfl,hb20,hg,hb2,HL,HW⟩:=hrel;by_cases hlt:bs<n
    ·have hltz:(bs:Int)<(n:Int):=by omega
     go_wp2_with fail
     go_loopg [7,8] n (fun g1 va vb wr=>∃ (k A:Nat) (di:Array α),Hid (A=2*k*bs)/\va = .int .i64 A/\vb = .int .i64 ((A:Int)+2*bs)/\A<=n/\n<=A+g1/\Hid (Ms (lt2 (ltOf cf) tag) tag n bs k d0 di)/\Hid (SWK enc 6 w0 blk off di wr))
     case atStart=>exact⟨0,0,di,by show _=_;omega,rfl,by go_num,by omega,by omega,HL.out.start,HW.out⟩
     case round =>
      clear HL HW;obtain⟨k,A,di,HA,rfl,rfl,hAn,hg3,HP,HW⟩:=hrel;have hsd:Hid (di.size=d0.size):=HP.out.perm.1;have hsn:Hid (di.size=n):=hsd.out.trans HN.out.symm;by_cases hlt3:A+2*bs<=n
      ·have hltz3:(A:Int)+2*bs<=(n:Int):=by omega
       obtain⟨p1,p2⟩:=HP.out.pair HN (by rw[<- HA.out];exact hlt3);rw[<- HA.out]at p1 p2;have C1:=MRG.out (2*bs+1) wr A (A+bs) (A+2*bs) A ((A:Int)+bs) ((A:Int)+2*bs) di rfl (by omega) (by omega) (by omega) (by omega) (by omega) (by have:=hsn.out;omega) hsd.out HW.out p1.1 p2.1 (p1.tags p2);clear p1 p2;go_wp2_with (go_at_call 146;refine C1.mono ?_;rintro e W1 ⟨rfl,d',h2,h3⟩;clear C1;have H2:=Lib.hid h2;have H3:=Lib.hid h3;clear h2 h3)
       go_roundg (n-(A+2*bs))
       case measure=>omega
       case rel=>exact⟨k+1,A+2*bs,d',by have:=HA.out;show _=_;rw[show 2*(k+1)=2*k+2 by omega,Nat.add_mul,<- this],by go_num,by go_num,by omega,by omega,HP.out.step HN (by rw[<- HA.out];exact hlt3) (by rw[<- HA.out];exact H2),H3⟩
      ·have hltz3:¬ (A:Int)+2*bs<=(n:Int):=by omega
       by_cases hm:A+bs<n
       ·have hmz:(A:Int)+bs<(n:Int):=by omega
        obtain⟨p1,p2⟩:=HP.out.tail HN (by rw[<- HA.out];exact hm) (by rw[<- HA.out];omega);rw[<- HA.out]at p1 p2;have C1:=MRG.out (2*bs+1) wr A (A+bs) n A ((A:Int)+bs) n di rfl (by omega) rfl (by omega) (by omega) hm (by have:=hsn.out;omega) hsd.out HW.out p1.1 p2.1 (p1.tags p2);clear p1 p2;go_wp2_with (go_at_call 146;refine C1.mono ?_;rintro e W1 ⟨rfl,d',h2,h3⟩;clear C1;have H2:=Lib.hid h2;have H3:=Lib.hid h3;clear h2 h3)
        go_roundg (n-bs*2)
        case measure=>omega
        case rel=>exact⟨bs*2,d',by go_num,by omega,by omega,by omega,by rw[Nat.mul_comm];exact HP.out.close HN (by rw[<- HA.out];exact hAn) (by rw[<- HA.out];omega) (.inr (by rw[<- HA.out];exact⟨hm,H2⟩)),H3⟩
       ·have hmz:¬ (A:Int)+bs<(n:Int):=by omega
        have L2:Hid (Ta (lt2 (ltOf cf) tag) tag n (2*bs) d0 di):=HP.out.close HN (by rw[<- HA.out];exact hAn) (by rw[<- HA.out];omega) (.inl ⟨rfl,by rw[<- HA.out];omega⟩);go_wp2_with fail
        go_roundg (n-bs*2)
        case measure=>omega
        case rel=>exact⟨bs*2,di,by go_num,by omega,by omega,by omega,by rw[Nat.mul_comm];exact L2,HW⟩
    ·have hltz:¬ (bs:Int)<(n:Int):=by omega
     go_wp2_with fail
     go_end0
     exact⟨rfl,di,HL.out.stable HS.out HN (by omega) (fun i hi=>HT.out i hi),by rw[HN.out];exact HL.out.perm.1,HW.out⟩
theorem Hx{α:Type}[Inhabited α](enc:α->List Value)(w0:World)(blk off cap g:Nat)(cb:Array Value)(cf:α->α->Int)(tag:α->Nat)(d0:Array α)(R:RowK enc 6 w0 blk off d0)
  (eg:∀ args w,(callFunc g args).run Tryz.prog w = .ok (.enter g args) w) (hcmp:CmpLays Tryz.prog g cb enc 6 cf blk off d0.size w0) (hS:SWO (ltOf cf)) (hsz:d0.size<1152921504606846976) (ht:∀ i,i<d0.size->tag d0[i]! = i) :
  Calls Tryz.prog 90 #[.slice (some ⟨blk,off,none⟩) d0.size cap,.func (.func g) #[] cb] w0 fun e w'=>e = .returned (.tuple #[])/\∃ d',d'.toList=Z2 (ltOf cf) d0.toList/\d'.size=d0.size/\SWK enc 6 w0 blk off d' w':=by
 have C1:=Zey enc w0 blk off cap g cb cf tag d0 R eg hcmp hS hsz ht;generalize d0.size=n at C1⊢;clear R hcmp hS hsz ht eg;go_enter Tryz.func90,Tryz.ntmps90
 go_wp2_with (go_at_call 124;refine C1.mono ?_;rintro e W1 ⟨rfl,h2⟩;clear C1)
 go_end0
 exact⟨rfl,h2⟩
end
section
open Go.Shelf Go.RowKit Go.Lib Go.Sort SS
structure El(κ:Type)(k:Nat) where
 key:κ
 rest:List Value
 hl:rest.length=k
 h1:∀ v∈rest,v.oneCell'=true
 tag:Nat
instance {κ:Type} [Inhabited κ] {k:Nat}:Inhabited (El κ k):=⟨⟨default,List.replicate k (.bool false),by simp,fun v hv=>by rw[List.eq_of_mem_replicate hv];rfl,0⟩⟩
def El.enc{κ:Type}{k:Nat}(kv:κ->Value)(x:El κ k):List Value:=kv x.key::x.rest
theorem El.enc_len{κ:Type}{k:Nat}(kv:κ->Value)(x:El κ k):(x.enc kv).length=k+1:=by simp[El.enc,x.hl]
theorem El.enc_one{κ:Type}{k:Nat}{kv:κ->Value}(hkv:∀ q,(kv q).oneCell'=true)(x:El κ k):∀ v∈x.enc kv,v.oneCell'=true:=by
 intro v hv;rcases List.mem_cons.1 hv with rfl|hv
 ·exact hkv _
 ·exact x.h1 v hv
variable{α:Type}[Inhabited α]{enc:α->List Value}{k:Nat}{w0 W:World}{blk off:Nat}
theorem Qp(w:World)(blk:Nat)(f:Array Value->Array Value)(j:Nat):(mapBlock w blk f).heap[j]? = if j=blk then (w.heap[j]?).map (onCells f) else w.heap[j]?:=by
 unfold mapBlock;simp only[Array.getElem?_modify];by_cases h:blk=j
 ·rw[if_pos h,if_pos h.symm]
 ·rw[if_neg h,if_neg (fun e=>h e.symm)]
theorem Bv{dk:Array α}(h:SWK enc k w0 blk off dk W):Fr (fun j=>j=blk) w0 W:=by
 obtain⟨n,os,rfl⟩:=h;unfold sortWorldK;refine⟨rfl,rfl,rfl,by rw[size_grow,size_putRowK];exact Nat.le_add_right _ _,fun j hj hn=>?_⟩;have hsz:(putRowK enc k (Sort.ahead w0 n) blk off dk).heap.size=w0.heap.size:=by rw[size_putRowK];rfl
 rw[heap_grow_old _ _ (by rw[hsz];exact hj)];unfold putRowK putRow;rw[Qp,if_neg hn];rfl
theorem Rw(hk:∀ x,(enc x).length=k)(d:Array α):(flatK enc k d).toList=d.toList.flatMap enc:=by
 have hgen:∀ (l:List α),(l.flatMap enc).length=l.length*k:=by
  intro l
  induction l with
  | nil=>simp
  | cons x l ih=>rw[List.flatMap_cons,List.length_append,ih,hk,List.length_cons,Nat.add_mul,Nat.one_mul];omega
 have hget:∀ (l:List α) (i j:Nat) (hi:i<l.length) (hj:j<k),(l.flatMap enc)[i*k+j]? = (enc l[i])[j]?:=by
  intro l
  induction l with
  | nil=>intro i j hi;simp at hi
  | cons x l ih =>
   intro i j hi hj;rw[List.flatMap_cons]
   cases i with
   | zero =>
    rw[List.getElem?_append_left (by rw[hk];omega)];simp
   | succ i =>
    have hi':i<l.length:=by simpa using hi
    have e:(i+1)*k+j=k+(i*k+j):=by rw[Nat.add_mul,Nat.one_mul];omega
    rw[List.getElem?_append_right (by rw[hk];omega),hk,e,Nat.add_sub_cancel_left,ih i j hi' hj];simp
 apply List.ext_getElem?;intro t;by_cases ht:t<d.size*k
 ·have hk0:0<k:=by
   rcases Nat.eq_zero_or_pos k with h|h
   ·subst h;simp at ht
   ·exact h
  have h1:t / k<d.size:=by rw[Nat.div_lt_iff_lt_mul hk0];exact ht
  have h2:t % k<k:=Nat.mod_lt _ hk0;have e:t / k*k+t % k=t:=by rw[Nat.mul_comm];exact Nat.div_add_mod t k
  have e1:=hget d.toList (t / k) (t % k) (by simpa using h1) h2;rw[e]at e1;rw[e1,Array.getElem?_toList,Array.getElem?_eq_getElem (by rw[size_flatK];exact ht),Array.getElem_toList];have e2:=get_flatK enc k d t ht;rw[getElem!_pos _ t (by rw[size_flatK];exact ht)]at e2;rw[e2,getElem!_pos d (t / k) h1,getElem!_pos (enc _) (t % k) (by rw[hk];exact h2),List.getElem?_eq_getElem (by rw[hk];exact h2)]
 ·rw[List.getElem?_eq_none (by rw[Array.length_toList,size_flatK];omega),List.getElem?_eq_none (by rw[hgen,Array.length_toList];omega)]
theorem Jr(F cur:Array Value)(h:F.size<=cur.size):(putCells id 0 F cur).toList.take F.size=F.toList/\(putCells id 0 F cur).size=cur.size:=by
 refine⟨?_,by simp[putCells]⟩;apply List.ext_getElem?;intro t;by_cases ht:t<F.size
 ·rw[List.getElem?_take_of_lt ht,Array.getElem?_toList,Array.getElem?_toList];unfold putCells;rw[Array.getElem?_mapIdx,Array.getElem?_eq_getElem (show t<cur.size by omega),Array.getElem?_eq_getElem ht];simp[ht]
 ·rw[List.getElem?_eq_none (by rw[List.length_take];omega),List.getElem?_eq_none (by rw[Array.length_toList];omega)]
theorem Ke{B T n g cap:Nat}{xs:List Value}(h:W.ownsRow B T k (.slice (some ⟨g,0,none⟩) n cap) n xs)(hk:∀ x,(enc x).length=k)(h1:∀ x,∀ v∈enc x,v.oneCell'=true){d:Array α}(hd:xs=d.toList.flatMap enc)(hn:d.size=n):RowK enc k W g 0 d:=by
 obtain⟨hl,⟨e,_⟩|⟨g',cap',cur,e,hb,hc,h2,h3,h4,h5⟩⟩:=h
 ·cases e
 ·simp only[Value.slice.injEq,Option.some.injEq,Addr.mk.injEq,and_true,true_and]at e;obtain⟨rfl,rfl⟩:=e;have hlt:g<W.heap.size:=(Array.getElem?_eq_some_iff.1 hc).1;refine⟨hk,h1,fun j hj=>?_,hlt⟩;rw[size_flatK]at hj;have hj2:j<n*k:=by rw[<- hn];exact hj
  have hcur:j<cur.size:=by
   rw[h4];exact Nat.lt_of_lt_of_le hj2 (Nat.mul_le_mul_right _ h2)
  have e1:cur[j]=(flatK enc k d)[j]!:=by
   have:(cur.toList.take (n*k))[j]? = (flatK enc k d).toList[j]?:=by rw[h5,hd,Rw hk]
   rw[List.getElem?_take_of_lt hj2,Array.getElem?_toList,Array.getElem?_toList,Array.getElem?_eq_getElem hcur,Array.getElem?_eq_getElem (by rw[size_flatK];exact hj)]at this;rw[getElem!_pos _ j (by rw[size_flatK];exact hj)];exact Option.some.inj this
  constructor
  ·simp only[World.cell?,hc,Nat.zero_add];simp[hcur,e1]
  ·simp[World.frozen?,hc]
theorem Gt{B T n g cap:Nat}{xs:List Value}(h:w0.ownsRow B T k (.slice (some ⟨g,0,none⟩) n cap) n xs)(hk:∀ x,(enc x).length=k){d:Array α}(hn:d.size=n)(hs:SWK enc k w0 g 0 d W):W.ownsRow B T k (.slice (some ⟨g,0,none⟩) n cap) n (d.toList.flatMap enc):=by
 obtain⟨hl,⟨e,_⟩|⟨g',cap',cur,e,hb,hc,h2,h3,h4,h5⟩⟩:=h
 ·cases e
 ·simp only[Value.slice.injEq,Option.some.injEq,Addr.mk.injEq,and_true,true_and]at e;obtain⟨rfl,rfl⟩:=e;have hlt:g<w0.heap.size:=(Array.getElem?_eq_some_iff.1 hc).1;obtain⟨m,os,rfl⟩:=hs;have hF:(flatK enc k d).size=n*k:=by rw[size_flatK,hn]
  have hle:(flatK enc k d).size<=cur.size:=by rw[hF,h4];exact Nat.mul_le_mul_right _ h2
  obtain⟨p1,p2⟩:=Jr (flatK enc k d) cur hle;rw[hF,Rw hk]at p1;refine⟨?_,.inr ⟨g,cap,putCells id 0 (flatK enc k d) cur,rfl,hb,?_,h2,h3,by rw[p2,h4],p1⟩⟩
  ·rw[<- Rw hk,Array.length_toList,hF]
  ·unfold sortWorldK;rw[heap_grow_old _ _ (by rw[size_putRowK];exact hlt)];unfold putRowK putRow;rw[Qp,if_pos rfl];show (w0.heap[g]?).map _=_;rw[hc];rfl
end
section
open Go.Shelf Go.RowKit Go.Lib Go.Sort SS
theorem Zjq(A:Option Addr)(cap:Nat)(v:Value)(w:World):Calls Tryz.prog 145 #[.slice A 0 cap,.int .i64 0,.int .i64 0,v] w fun e w'=>e = .returned (.tuple #[])/\w'=w:=by
 go_enter Tryz.func145,Tryz.ntmps145
 go_wp2_with fail
 go_loopw [8] (fun v wr=>v = .int .i64 1/\wr=w) (fun _ _=>0)
 case atStart=>exact⟨rfl,rfl⟩
 case round =>
  obtain⟨rfl,rfl⟩:=hrel;go_wp2_with fail
  go_end0
  exact⟨rfl,rfl⟩
theorem Zhx(A:Option Addr)(cap:Nat)(v:Value)(w:World):Calls Tryz.prog 124 #[.slice A 0 cap,.int .i64 0,v] w fun e w'=>e = .returned (.tuple #[])/\w'=w:=by
 go_enter Tryz.func124,Tryz.ntmps124
 go_wp2_with fail
 go_loopw [7,8] (fun a b wr=>a = .int .i64 0/\b = .int .i64 20/\wr=w) (fun _ _ _=>0)
 case atStart=>exact⟨rfl,rfl,rfl⟩
 case round =>
  obtain⟨rfl,rfl,rfl⟩:=hrel;have C1:=Zjq A cap v wr;go_wp2_with (go_at_call 145;refine C1.mono ?_;rintro e W1 ⟨rfl,rfl⟩;clear C1)
  go_loopw [6] (fun v wr=>v = .int .i64 20/\wr=W1) (fun _ _=>0)
  case atStart=>exact⟨rfl,rfl⟩
  case round =>
   obtain⟨rfl,rfl⟩:=hrel;go_wp2_with fail
   go_end0
   exact⟨rfl,rfl⟩
theorem Zh1(A:Option Addr)(cap:Nat)(v:Value)(w:World):Calls Tryz.prog 90 #[.slice A 0 cap,v] w fun e w'=>e = .returned (.tuple #[])/\w'=w:=by
 have C1:=Zhx A cap v w;go_enter Tryz.func90,Tryz.ntmps90
 go_wp2_with (go_at_call 124;refine C1.mono ?_;rintro e W1 ⟨rfl,rfl⟩;clear C1)
 go_end0
 exact⟨rfl,rfl⟩
theorem Zc5{α:Type}[Inhabited α](enc:α->List Value)(hk:∀ x,(enc x).length=6)(h1:∀ x,∀ v∈enc x,v.oneCell'=true)(cf:α->α->Int)(tag:α->Nat)(B T n g:Nat)(v:Value)(ds:List α)(w:World)(h:w.ownsRow B T 6 v n (ds.flatMap enc))(hn:ds.length=n)
  (eg:∀ args w,(callFunc g args).run Tryz.prog w = .ok (.enter g args) w) (hcmp:∀ (x y:α) (w:World),Calls Tryz.prog g #[.agg (enc x).toArray,.agg (enc y).toArray] w fun e w'=>e = .returned (.int .i64 (cf x y))/\∃ q os,w'=grow (w.drewN q) os) (hS:SWO (ltOf cf)) (hsz:n<1152921504606846976) (ht:∀ i (hi:i<ds.length),tag ds[i]=i) :
  Calls Tryz.prog 90 #[v,.func (.func g) #[] #[]] w fun e w'=>e = .returned (.tuple #[])/\w'.ownsRow B T 6 v n ((Z2 (ltOf cf) ds).flatMap enc)/\Fr (fun j=>v.ownBlock=some j) w w':=by
 rcases id h with ⟨hl,⟨rfl,rfl⟩|⟨gg,cap,cur,rfl,hb,hc,h2,h3,h4,h5⟩⟩
 ·have:ds=[]:=List.eq_nil_of_length_eq_zero hn;subst this;refine (Zh1 none 0 _ w).mono ?_;rintro e w' ⟨rfl,rfl⟩;exact⟨rfl,h,Fr.refl _ _⟩
 ·have R:=Ke (d:=ds.toArray) h hk h1 rfl (by simp[hn])
  have:=Hx enc w gg 0 cap g #[] cf tag ds.toArray R eg (by
   intro m os dk _ x y
   exact hcmp x y _) hS (by simp[hn];exact hsz) (fun i hi=>by
    have hi':i<ds.length:=by simpa using hi
    rw[getElem!_pos _ i hi]
    simpa using ht i hi')
  rw[show ds.toArray.size=n by simp[hn]]at this;refine this.mono ?_;rintro e w' ⟨rfl,d',e1,e2,hs⟩;refine⟨rfl,?_,(Bv hs).mono (fun j _ q=>by rw[q];rfl)⟩;have:=Gt h hk (e2.trans (by simp[hn])) hs;rw[e1]at this;exact this
end
section
open Go.Shelf Go.RowKit Go.Lib Go.Sort SS
structure SPu(P:Program)(k:Nat):Prop where
 mixed:P.follows .mixedOrders=true
 t0:P.underlying 0=some (.tuple #[])
 a0:∀ w,(isAgg 0).run P w = .ok false w
 z0:∀ w,(Go.sizeOf 0).run P w = .ok 1 w
 v0:∀ w,(zeroValue 0).run P w = .ok (.tuple #[]) w
 t3:P.underlying 3=some (.int .i64)
 a3:∀ w,(isAgg 3).run P w = .ok false w
 z3:∀ w,(Go.sizeOf 3).run P w = .ok 1 w
 v3:∀ w,(zeroValue 3).run P w = .ok (.int .i64 0) w
 t4:P.underlying 4=some .bool
 a4:∀ w,(isAgg 4).run P w = .ok false w
 z4:∀ w,(Go.sizeOf 4).run P w = .ok 1 w
 v4:∀ w,(zeroValue 4).run P w = .ok (.bool false) w
 t246:P.underlying 246=some (.int .u64)
 a246:∀ w,(isAgg 246).run P w = .ok false w
 z246:∀ w,(Go.sizeOf 246).run P w = .ok 1 w
 v246:∀ w,(zeroValue 246).run P w = .ok (.int .u64 0) w
 tS:P.underlying 26=some (.slice 61)
 aS:∀ w,(isAgg 26).run P w = .ok false w
 zS:∀ w,(Go.sizeOf 26).run P w = .ok 1 w
 vS:∀ w,(zeroValue 26).run P w = .ok (.slice none 0 0) w
 tF:P.underlying 254=some (.func #[61,61] #[3] false)
 aF:∀ w,(isAgg 254).run P w = .ok false w
 zF:∀ w,(Go.sizeOf 254).run P w = .ok 1 w
 vF:∀ w,(zeroValue 254).run P w = .ok .nilFunc w
 aE:∀ w,(isAgg 61).run P w = .ok true w
 zE:∀ w,(Go.sizeOf 61).run P w = .ok k w
theorem sp_u:SPu Tryz.prog 5:=by
 constructor <;> first|kernel_rfl|(intro w;kernel_rfl)
theorem Ht{P:Program}{k:Nat}(L:SPu P k)(F:P.funcs[213]? = some Tryz.f213){α:Type}[Inhabited α](enc:α->List Value)(w0 W:World)(blk off cap a b n:Nat)(d0 dk:Array α)(R:RowK enc k w0 blk off d0)(hs:dk.size=d0.size)(h:SWK enc k w0 blk off dk W)
  (hab:a+n<=b) (hb:b+n<=dk.size) (hsz:dk.size<4611686018427387904) (v:Value) :
  Calls P 213 #[.slice (some ⟨blk,off,none⟩) dk.size cap,.int .i64 a,.int .i64 b,.int .i64 n,v] W fun e w'=>e = .returned (.tuple #[])/\∃ d',SwR dk a b n d'/\SWK enc k w0 blk off d' w':=by
 have mixed:=L.mixed;have t0:=L.t0;have a0:=L.a0;have z0:=L.z0;have v0:=L.v0;have t3:=L.t3;have a3:=L.a3;have z3:=L.z3;have v3:=L.v3;have t4:=L.t4;have a4:=L.a4;have z4:=L.z4;have v4:=L.v4;have t246:=L.t246;have a246:=L.a246;have z246:=L.z246;have v246:=L.v246;have tS:=L.tS;have aS:=L.aS;have zS:=L.zS;have vS:=L.vS;have tF:=L.tF;have aF:=L.aF;have zF:=L.zF;have vF:=L.vF;have aE:=L.aE;have zE:=L.zE;have uS:=run_underlying L.tS;have RR:Aside _:=R;have HH:Aside _:=h;have HS:=Lib.hid hs;clear R h hs L;go_enter F,Tryz.ntmps213
 go_wp2
 go_loopg [10] n (fun g1 vi wr=>∃ (i:Nat) (di:Array α),vi = .int .i64 i/\i<=n/\n<=i+g1/\Hid (SwR dk a b i di)/\Hid (SWK enc k w0 blk off di wr))
 case atStart=>exact⟨0,dk,rfl,Nat.zero_le _,by omega,SwR.zero _ _ _,HH.out⟩
 case round =>
  obtain⟨i,di,rfl,hi,hg,HR,HW⟩:=hrel;by_cases hlt:i<n
  ·have hltz:(i:Int)<(n:Int):=by omega
   have hsd:di.size=dk.size:=HR.out.1;have hs0:di.size=d0.size:=hsd.trans HS;have x1:a+i<di.size:=by omega
   have x2:b+i<di.size:=by omega
   obtain⟨ex,hex⟩:∃ c,enc di[a+i]! = c:=⟨_,rfl⟩;obtain⟨ey,hey⟩:∃ c,enc di[b+i]! = c:=⟨_,rfl⟩;have l1:=HW.out.ld1 RR.out hs0 P (b+i) x2;have l2:=HW.out.ld1 RR.out hs0 P (a+i) x1;have s1:=HW.out.st1 RR.out hs0 P (a+i) x1 di[b+i]!;have s2:=HW.out.st2 RR.out hs0 P (a+i) (b+i) x1 x2 di[b+i]! di[a+i]!;have HN:=Lib.hid (HW.out.swapped RR.out (a+i) (b+i) x1 x2);have y1:ex.length=k:=by rw[<- hex];exact RR.out.hk _
   have y2:ey.length=k:=by rw[<- hey];exact RR.out.hk _
   rw[hex]at l2 s2;rw[hey]at l1 s1 s2;have CC:=Lib.hid (And.intro hex hey);have z1:(a:Int)+i<dk.size:=by omega
   have z2:(b:Int)+i<dk.size:=by omega
   clear hex hey hs0;go_wp2_with fail
   go_big_region_o
   all_goals go_wp2
   go_roundg (n-(i+1))
   case measure=>omega
   case rel=>exact⟨i+1,swp di (a+i) (b+i),by go_num,by omega,by omega,HR.out.step (by omega) (by omega),by rw[CC.1,CC.2]at HN;exact HN⟩
  ·have hltz:¬ (i:Int)<(n:Int):=by omega
   go_wp2
   go_end0
   have e:i=n:=by omega
   subst e;exact⟨rfl,di,HR.out,HW.out⟩
end
section
open Go.Shelf Go.RowKit Go.Lib Go.Sort SS
theorem Ep{α:Type}[Inhabited α](enc:α->List Value)(w0 W:World)(blk off cap a b n sz:Nat)(d0 dk:Array α)(R:RowK enc 5 w0 blk off d0)(hs:dk.size=d0.size)(h:SWK enc 5 w0 blk off dk W)
  (hz:sz=dk.size) (hab:a+n<=b) (hb:b+n<=dk.size) (hsz:dk.size<4611686018427387904) (v:Value) :
  Calls Tryz.prog 213 #[.slice (some ⟨blk,off,none⟩) sz cap,.int .i64 a,.int .i64 b,.int .i64 n,v] W fun e w'=>e = .returned (.tuple #[])/\∃ d',SwR dk a b n d'/\SWK enc 5 w0 blk off d' w':=by
 subst hz;exact Ht sp_u Tryz.func213 enc w0 W blk off cap a b n d0 dk R hs h hab hb hsz v
theorem Zfb{α:Type}[Inhabited α](enc:α->List Value)(w0 W:World)(blk off cap a m b sz:Nat)(d0 dk:Array α)(R:RowK enc 5 w0 blk off d0)(hs:dk.size=d0.size)(h:SWK enc 5 w0 blk off dk W)
  (hz:sz=dk.size) (ham:a<m) (hmb:m<b) (hb:b<=dk.size) (hsz:dk.size<4611686018427387904) (v:Value) :
  Calls Tryz.prog 201 #[.slice (some ⟨blk,off,none⟩) sz cap,.int .i64 a,.int .i64 m,.int .i64 b,v] W fun e w'=>e = .returned (.tuple #[])/\∃ d',Wz dk a m b d'/\SWK enc 5 w0 blk off d' w':=by
 have RR:Aside _:=R;have HH:Aside _:=h;have HS:=Lib.hid hs;have HZ:=Lib.hid hz;clear R h hs hz;go_enter Tryz.func201,Tryz.ntmps201
 go_wp2
 go_loopg [10,11] (b-a) (fun g1 vi vj wr=>∃ (i j:Nat) (di:Array α),vi = .int .i64 i/\vj = .int .i64 j/\0<i/\0<j/\i<=m-a/\j<=b-m/\i+j<=g1/\Hid (Pd dk a m b i j di)/\Hid (SWK enc 5 w0 blk off di wr))
 case atStart=>exact⟨m-a,b-m,dk,by go_num,by go_num,by omega,by omega,Nat.le_refl _,Nat.le_refl _,by omega,Pd.start dk (by omega) (by omega),HH.out⟩
 case round =>
  obtain⟨i,j,di,rfl,rfl,hi,hj,hi2,hj2,hg,HR,HW⟩:=hrel;have hsd:di.size=dk.size:=HR.out.1;have HSD:=Lib.hid hsd;have HZD:=Lib.hid (HZ.out.trans hsd.symm)
  have CALL:∀ (W:World) (x y n:Nat) (xi yi ni:Int),xi=x->yi=y->ni=n->SWK enc 5 w0 blk off di W->x+n<=y->y+n<=dk.size ->
    Calls Tryz.prog 213 #[.slice (some ⟨blk,off,none⟩) sz cap,.int .i64 xi,.int .i64 yi,.int .i64 ni,v] W fun e w'=>e = .returned (.tuple #[])/\∃ d',SwR di x y n d'/\SWK enc 5 w0 blk off d' w':=by
   rintro W x y n _ _ _ rfl rfl rfl h1 h2 h3;exact Ep enc w0 W blk off cap x y n sz d0 di RR.out (HSD.trans HS) h1 HZD h2 (by have:=HSD.out;omega) (by have:=HSD.out;omega) v
  clear hsd;by_cases he:i=j
  ·subst he;have C1:=CALL wr (m-i) m i (m-i) m i (by omega) rfl rfl HW.out (by omega) (by omega);clear CALL;go_wp2_with (go_at_call 213;refine C1.mono ?_;rintro e W1 ⟨rfl,d',h1,h2⟩)
   go_end0
   exact⟨rfl,d',HR.out.done (by omega) (by omega) h1,h2⟩
  ·have hez:¬ (i:Int)=(j:Int):=by omega
   have hez2:((i:Int)==(j:Int))=false:=by simpa using hez
   by_cases hgt:j<i
   ·have hgtz:(j:Int)<(i:Int):=by omega
    have C1:=CALL wr (m-i) m j (m-i) m j (by omega) rfl rfl HW.out (by omega) (by omega);clear CALL;go_wp2_with (go_at_call 213;refine C1.mono ?_;rintro e W1 ⟨rfl,d',h1,h2⟩;clear C1)
    go_roundg i
    case measure=>omega
    case rel=>exact⟨i-j,j,d',by go_num,rfl,by omega,by omega,by omega,by omega,by omega,HR.out.left (by omega) (by omega) hgt h1,h2⟩
   ·have hgtz:¬ (j:Int)<(i:Int):=by omega
    have C1:=CALL wr (m-i) (m+j-i) i (m-i) (m+j-i) i (by omega) (by omega) rfl HW.out (by omega) (by omega);clear CALL;go_wp2_with (go_at_call 213;refine C1.mono ?_;rintro e W1 ⟨rfl,d',h1,h2⟩;clear C1)
    go_roundg j
    case measure=>omega
    case rel=>exact⟨i,j-i,d',rfl,by go_num,by omega,by omega,by omega,by omega,by omega,HR.out.right (by omega) (by omega) (by omega) h1,h2⟩
end
end Go.Proofs.YtoliamijgmifkaaGreatDoor
