/- laws.sameLists, of lists that  -/
import Derived.Test.YtlfoalomaofejaaGreatDoorC48
import Derived.Test.YtlfoalomaofejaaGreatDoorC49
set_option linter.all false
set_option maxRecDepth 100000
set_option maxHeartbeats 1000000
namespace Go.Proofs.YtlfoalomaofejaaGreatDoor
section
open Go.RowKit DT SP
theorem I8{w:World}{O O':Nat->Prop}{A B:Option Addr}{c k:Nat}{ls:List (List ByteArray)}(h1:strs.At w O A ls)(h2:strs.At w O' B ls) :
  Calls Tryz.prog 64 #[.slice A ls.length c,.slice B ls.length k] w λe w'=>e=.returned (.bool true)/\Zf w w':=by
 have mixed:Tryz.prog.follows .mixedOrders=true:=Kr
 have hm:=h1.1;have H:=Hd (Ai1 h1 h2);clear h1 h2;obtain⟨n,hn⟩:∃ n,n=ls.length:=⟨_,rfl⟩;rw[<- hn]at hm⊢;have HN:=Hd hn;clear hn;go_enter Tryz.func64,Tryz.ntmps64
 go_wp2_with fail
 go_loopg [13] n (λg1 v13 wr=>∃ i:Nat,v13=.int .i64 (i:Int)/\i<=n/\n<=i+g1/\Hid (Zf w wr))
 case atStart=>exact⟨0,rfl,Om,Om,Fl _⟩
 case round =>
  obtain⟨i,rfl,hi,hg,HR⟩:=hrel;by_cases hlt:i<n
  ·have hlz:(i:Int)<(n:Int):=Om;have hz0:(0:Int)<=(i:Int):=Om;have hil:i<ls.length:=by rw[<- HN.out];exact hlt
   obtain⟨gb,go,Ax,cx,rfl,lg,hr,q1⟩:=Q6 (Z3 H.out.1 HR.out) i hil;obtain⟨gb2,go2,Ax2,cx2,rfl,lg2,hr2,q2⟩:=Q6 (Z3 H.out.2 HR.out) i hil;generalize ls[i]=xs at *;have HS:=Hd (Ai1 hr hr2);clear hr hr2 hil;go_upto_region 6 with fail
   go_still_tail 8,Kr
   change wpList _ _ _ _ _ wr.drew
   go_wp2_with (first
    | (go_at_call 20;refine (Rr (strs.ext HS.out.1 ((Fl wr).drew)) (strs.ext HS.out.2 ((Fl wr).drew))).mono ?_;rintro e w2 ⟨rfl,hx⟩;have HX:=Hd (((Fe wr).drew).then hx);clear hx)
    | fail)
   go_roundg (n-(i+1))
   case measure=>omega
   case rel=>exact⟨i+1,by go_num,Om,Om,HR.out.then HX.out⟩
  ·obtain rfl:i=n:=Om
   go_wp2_with fail
   go_ret;exact⟨rfl,HR.out⟩
theorem Pz(w:World):Calls Tryz.prog 21 #[] w λe w'=>e=.returned (.bool true)/\Zf w w':=by
 have hcv:=Go.Joins.run_convert_bytes_const_at (P:=Tryz.prog) w 55 5 #[.int .u8 97,.int .u8 7,.int .u8 98,.int .u8 10,.int .u8 99] 5 5 w.heap.size rfl Tryz.underlying55 Tryz.underlying5;have X1:Zf w (w.alloc (.cells #[.int .u8 97,.int .u8 7,.int .u8 98,.int .u8 10,.int .u8 99] 5 (5,6))):=(Fl w).alloc _
 have C:=Hd (Pm [97,7,98,10,99] (by decide) ⟨w.heap.size,0,none⟩ 5 (w.alloc (.cells #[.int .u8 97,.int .u8 7,.int .u8 98,.int .u8 10,.int .u8 99] 5 (5,6))) (λj u hu=>by
  rw[Addr.add_lit,Nat.zero_add];have e:=alloc_at w (.cells #[.int .u8 97,.int .u8 7,.int .u8 98,.int .u8 10,.int .u8 99] 5 (5,6));simp only[World.cell?,e];have hj:j<5:=by have:=(Gl.1 hu).1;simpa [Yv] using this
  have:j=0\/j=1\/j=2\/j=3\/j=4:=Om
  rcases this with rfl|rfl|rfl|rfl|rfl<;>exact hu) (by decide))
 have hrw:Oa ⟨([97,7,98,10,99]:List UInt8).toArray⟩=[[⟨#[97]⟩,⟨#[98]⟩],[⟨#[99]⟩]]:=Rf
 rw[hrw]at C;have HX:=Hd X1;clear hrw X1;go_enter Tryz.func21,Tryz.ntmps21
 go_wp2_with (first
  | (go_at_call 23;refine C.out.mono ?_;rintro e w1 ⟨A,rfl,ha,hx⟩;have HA:=Hd (Ai1 ha (HX.out.then hx));clear ha hx)
  | fail)
 have K1:=alloc_at w1 (.cells #[.string ⟨#[97]⟩,.string ⟨#[98]⟩] 9);have K2:=alloc_at (w1.alloc (.cells #[.string ⟨#[97]⟩,.string ⟨#[98]⟩] 9)) (.cells #[.string ⟨#[99]⟩] 9);have K3:=alloc_at ((w1.alloc (.cells #[.string ⟨#[97]⟩,.string ⟨#[98]⟩] 9)).alloc (.cells #[.string ⟨#[99]⟩] 9)) (.cells #[.slice (some ⟨w1.heap.size,0,none⟩) 2 2,.slice (some ⟨w1.heap.size+1,0,none⟩) 1 1] 34);have X3:Zf w1 (((w1.alloc (.cells #[.string ⟨#[97]⟩,.string ⟨#[98]⟩] 9)).alloc (.cells #[.string ⟨#[99]⟩] 9)).alloc (.cells #[.slice (some ⟨w1.heap.size,0,none⟩) 2 2,.slice (some ⟨w1.heap.size+1,0,none⟩) 1 1] 34)):=(((Fl w1).alloc _).alloc _).alloc _;rw[Za,Za]at K3;rw[Za]at K2;have K1:=((((Fe _).alloc _).alloc _).heap K1 id:(((w1.alloc (.cells #[.string ⟨#[97]⟩,.string ⟨#[98]⟩] 9)).alloc (.cells #[.string ⟨#[99]⟩] 9)).alloc (.cells #[.slice (some ⟨w1.heap.size,0,none⟩) 2 2,.slice (some ⟨w1.heap.size+1,0,none⟩) 1 1] 34)).heap[w1.heap.size]?=_);have K2:=(((Fe _).alloc _).heap K2 id:(((w1.alloc (.cells #[.string ⟨#[97]⟩,.string ⟨#[98]⟩] 9)).alloc (.cells #[.string ⟨#[99]⟩] 9)).alloc (.cells #[.slice (some ⟨w1.heap.size,0,none⟩) 2 2,.slice (some ⟨w1.heap.size+1,0,none⟩) 1 1] 34)).heap[w1.heap.size+1]?=_);generalize World.alloc _ (.cells #[.slice (some ⟨w1.heap.size,0,none⟩) 2 2,.slice (some ⟨w1.heap.size+1,0,none⟩) 1 1] 34)=w3 at *;have S1:strs.R w3 (λ_=>True) [⟨#[97]⟩,⟨#[98]⟩] [.slice (some ⟨w1.heap.size,0,none⟩) 2 2]:=strs.mono (λ_ _ _=>trivial) (Ub (xs:=[⟨#[97]⟩,⟨#[98]⟩]) K1 rfl (by decide) (by decide));have S2:strs.R w3 (λ_=>True) [⟨#[99]⟩] [.slice (some ⟨w1.heap.size+1,0,none⟩) 1 1]:=strs.mono (λ_ _ _=>trivial) (Ub (xs:=[⟨#[99]⟩]) K2 rfl (by decide) (by decide))
 have S3:strs.At w3 (λ_=>True) (some ⟨w1.heap.size+1+1,0,none⟩) [[⟨#[97]⟩,⟨#[98]⟩],[⟨#[99]⟩]]:=by
  refine⟨by decide,.inr ⟨_,_,rfl,trivial,(Gs1.1 K3).1,λi hi=>?_⟩⟩;have:i=0\/i=1:=by have:i<2:=hi;omega
  rcases this with rfl|rfl
  ·exact⟨_,S1,λj hj=>by have:j=0:=(by simpa using hj);subst this;exact cell_of K3 0 _ rfl⟩
  ·exact⟨_,S2,λj hj=>by have:j=0:=(by simpa using hj);subst this;exact cell_of K3 1 _ rfl⟩
 have CS:=Hd (I8 (c:=2) (k:=2) (Z3 HA.out.1 X3) S3);have HX3:=Hd (HA.out.2.then X3);clear K1 K2 K3 S1 S2 S3 X3
 go_wp2_with (first
  | (go_at_call 64;refine CS.out.mono ?_;rintro e w4 ⟨rfl,hx⟩;have HX4:=Hd hx;clear hx)
  | fail)
 go_ret;exact⟨rfl,HX3.out.then HX4.out⟩
end
section
open Go.Shelf Go.RowKit SS DT
abbrev TWD:TypeId:=53
def Km(g:Nat)(xs:List GWord)(w:World):Prop :=
 ∃ cs:Array Value,w.heap[g]?=some (.cells cs TWD (0,0))/\∀ i (hi:i<xs.length),∃ e,tWord.R w (λj=>j≠g) xs[i] e/\∀ j (hj:j<e.length),cs[i*6+j]?=some e[j]
section
variable{w w':World}{O:Nat->Prop}{g:Nat}{xs:List GWord}
theorem Ze9{x:GWord}{e:List Value}{q:Value}(h:tWord.R w O x e)(hq:strs.R w O x.contents [q]):tWord.R w O x (e.set 5 q):=by
 obtain⟨_,_,rfl,⟨rfl,hs⟩,_,_,rfl,⟨rfl,h1⟩,_,_,rfl,⟨rfl,h2⟩,_,_,rfl,⟨rfl,h3⟩,_,_,rfl,⟨A,c,rfl,h4⟩,⟨A',c',rfl,h5⟩⟩:=h;exact Zg6 ⟨A,c,rfl,h4⟩ hq hs h1 h2 h3
theorem Km.keep{S:Nat->Prop}(h:Km g xs w)(f:Fr S w w')(hS:∀ j,¬ S j):Km g xs w':=by
 obtain⟨cs,h0,h1⟩:=h;exact⟨cs,f.heap h0 (hS g),λi hi=>by obtain⟨e,h2,h3⟩:=h1 i hi;exact⟨e,tWord.keep h2 f (λj _ _=>hS j),h3⟩⟩
theorem Km.at(h:Km g xs w)(hl:xs.length<=9223372036854775807):tWord.At w (λ_=>True) (some ⟨g,0,none⟩) xs:=by
 obtain⟨cs,h0,h1⟩:=h;refine⟨hl,.inr ⟨g,0,rfl,trivial,(Gs1.1 h0).1,λi hi=>?_⟩⟩;obtain⟨e,h2,h3⟩:=h1 i hi;refine⟨e,tWord.mono (λ_ _ _=>trivial) h2,λj hj=>?_⟩;rw[Nat.zero_add];exact cell_of h0 _ _ (h3 j hj)
theorem Km.cell(h:Km g xs w)(i:Nat)(hi:i<xs.length):∃ u,w.cell? ⟨g,i*6+5,none⟩=some u/\w.frozen? ⟨g,i*6+5,none⟩=false:=by
 obtain⟨cs,h0,h1⟩:=h;obtain⟨e,h2,h3⟩:=h1 i hi;have hl:e.length=6:=tWord.len h2;exact⟨_,cell_of h0 _ _ (h3 5 Om),Zi h0 _⟩
theorem Km.set(h:Km g xs w)(i:Nat)(hi:i<xs.length){q:Value}(hq:strs.R w (λj=>j≠g) xs[i].contents [q]):Km g xs (w.setCell ⟨g,i*6+5,none⟩ q):=by
 obtain⟨cs,h0,h1⟩:=h;have F:Fr (λj=>j=g) w (w.setCell ⟨g,i*6+5,none⟩ q):=(Fl w).setCell ⟨g,i*6+5,none⟩ _ (λ_=>rfl);refine⟨_,Xf h0 (i*6+5) q,λk hk=>?_⟩;obtain⟨e,h2,h3⟩:=h1 k hk;have hl:e.length=6:=tWord.len h2;by_cases ek:k=i
 ·subst ek;refine⟨e.set 5 q,tWord.keep (Ze9 h2 hq) F (λj _ h e=>h e),λj hj=>?_⟩;rw[List.length_set]at hj;by_cases e5:j=5
  ·subst e5;have hs:k*6+5<cs.size:=(Gs1.1 (h3 5 hj)).1;rw[Array.getElem?_setIfInBounds_self_of_lt hs,List.getElem_set_self]
  ·rw[Array.getElem?_setIfInBounds_ne Om,h3 j hj,List.getElem_set_ne Om]
 ·refine⟨e,tWord.keep h2 F (λj _ h e=>h e),λj hj=>?_⟩;rw[Array.getElem?_setIfInBounds_ne Om];exact h3 j hj
theorem Zj6{w2:World}{ds:List (El GWord 5)}{n cap B:Nat}(hels:Els tWord Xp 5 w O xs ds)(f:Zf w w2)(hB:w.heap.size<=B)(h:w2.ownsRow B TWD 6 (.slice (some ⟨g,0,none⟩) n cap) n (ds.flatMap (El.enc Xp))):Km g xs w2:=by
 obtain⟨hl,⟨e,_⟩|⟨g',cap',cur,e,hb,hc,_,_,hs,ht⟩⟩:=h
 ·cases e
 ·cases e;refine⟨cur,hc,λi hi=>?_⟩;have hds:ds.length=xs.length:=by rw[<- hels.key,List.length_map]
  have hid:i<ds.length:=Om
  have hk:ds[i].key=xs[i]:=by
   have:(ds.map El.key)[i]'(by rw[List.length_map];exact hid)=xs[i]:=(by simp only[hels.key]);rw[<- this,List.getElem_map]
  refine⟨(ds[i]).enc Xp,?_,λj hj=>?_⟩
  ·have h1:=hels.rd _ (List.getElem_mem hid);rw[hk]at h1;exact tWord.mono (λk _ (q:k<w.heap.size)=>by show k≠g;omega) (tWord.ext (tWord.mono (O':=λk=>k<w.heap.size) (λk hk _=>hk) h1) f)
  ·rw[El.enc_len]at hj
   have e3:(cur.toList.take (n*6))[i*6+j]?=some ((ds[i].enc Xp)[j]):=by
    rw[ht,flat_get (El.enc Xp) 6 (El.enc_len Xp) ds i j hid hj,Ge]
   rw[List.getElem?_take]at e3
   split at e3
   ·rwa[Array.getElem?_toList]at e3
   ·cases e3
theorem Bg{d:Zg}{A1 A':Option Addr}{n1 c1 c':Nat}{r:List Value}(h:tDict.R w O d (.slice A1 n1 c1::r))(hc:d.words.length<=c')(hA:A'=none->c'=0)(ha:tWord.At w O A' d.words):tDict.R w O d (.slice A' d.words.length c'::r):=by
 obtain⟨c0,c2,e,⟨A,c,rfl,_⟩,h2⟩:=h;obtain⟨_,rfl⟩:=List.cons.inj e;exact⟨[_],_,rfl,⟨A',c',rfl,hc,hA,ha⟩,h2⟩
theorem Cu{d:Zg}(h:We d=true):((d.words.map (·.contents)).map total).sum<=1000000/\d.words.length<=60:=by
 unfold We at h;simp only[Bool.and_eq_true,List.all_eq_true,decide_eq_true_eq]at h;obtain⟨h1,_,_,h4,_⟩:=h;refine⟨?_,h4⟩
 have key:∀ l:List GWord,(∀ x∈l,Wo x=true)->((l.map (·.contents)).map total).sum<=l.length*4000:=by
  intro l
  induction l with
  | nil=>intro _;simp
  | cons x l ih =>
   intro hl;have h0:=hl x (by simp);unfold Wo Sh at h0;simp only[Bool.and_eq_true,decide_eq_true_eq,List.map_cons,List.map_nil,List.sum_cons,List.sum_nil]at h0;have h2:=ih (λy hy=>hl y (by simp[hy]));rw[List.map_cons,List.map_cons,List.sum_cons,List.length_cons,Nat.add_mul];have:=h0.2.2.1;omega
 have:=key d.words h1;omega
end
end
end Go.Proofs.YtlfoalomaofejaaGreatDoor
