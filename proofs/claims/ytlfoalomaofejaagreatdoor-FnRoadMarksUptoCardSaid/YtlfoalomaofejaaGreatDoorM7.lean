/- The stable sort (slices.stable -/
import Derived.Test.YtlfoalomaofejaaGreatDoorM6
set_option linter.all false
set_option maxRecDepth 100000
set_option maxHeartbeats 4000000
namespace Go.Proofs.YtlfoalomaofejaaGreatDoor
section
open Go.Shelf Go.RowKit Go.Lib Go.Sort SS
theorem Zby{P:Program}{α:Type}[Inhabited α]{enc:α->List Value}{k:Nat}{z W:World}{blk off g size:Nat}{L:Array Value}{K:α->α->Int}{I:Array α}(V:CmpLays P g L enc k K blk off size z)(h:SWK enc k z blk off I W)(q:blk<z.heap.size)(U:I.size=size):CmpLays P g L enc k K blk off size W:=by
 intro m os J G x y;obtain⟨M,A,e⟩:=h.on q m J os (G.trans U.symm);rw[e];exact V M A J G x y
def Zn7{α:Type}[Inhabited α](P:Program)(enc:α->List Value)(k:Nat)(q:World)(blk off cap sz g:Nat)(J:Array Value)(I:α->α->Int)(G:Array α):Prop :=
 ∀ (W:World) (a b:Nat) (A z:Int) (h:Array α),A=a->z=b->a<=b->b<=h.size->h.size=G.size->SWK enc k q blk off h W ->
  Calls P 256 #[.slice (some ⟨blk,off,none⟩) sz cap,.int .i64 A,.int .i64 z,.func (.func g) #[] J] W λe w'=>e=.returned (.tuple #[])/\SWK enc k q blk off (insertionSort (ltOf I) h a b) w'
theorem Zbd{α:Type}[Inhabited α](enc:α->List Value)(K:World)(blk off cap g:Nat)(L:Array Value)(J:α->α->Int)(G:Array α)(R:RowK enc 6 K blk off G)
  (Z:∀ args w,(callFunc g args).run Tryz.prog w=.ok (.enter g args) w) (q:CmpLays Tryz.prog g L enc 6 J blk off G.size K) (Y:SWO (ltOf J)) (U:G.size<4611686018427387904) :
  Zn7 Tryz.prog enc 6 K blk off cap G.size g L J G:=by
 rintro W a b ai bi M X V A z I h;subst X V;have:=AnyQ.insertionSortCmpFunc layInsw 6 (λw=>sp_w.aE w) (λw=>sp_w.zE w) enc R.hk R.h1 J g L blk off cap a b M W Z (by rw[I];exact Zby q h R.hblk I) (h.holds R.hblk R.hH I) (h.lt R.hblk) A z Om;rw[I]at this;refine Calls.mono this ?_;rintro e w' ⟨rfl,n,os,rfl⟩;exact⟨rfl,h.on R.hblk n _ os (insertionSort_holds Y M a b A z).1.1⟩
theorem Zew{α:Type}[Inhabited α](enc:α->List Value)(z:World)(blk off cap g:Nat)(I:Array Value)(G:α->α->Int)(tag:α->Nat)(h:Array α)(R:RowK enc 6 z blk off h)
  (K:∀ args w,(callFunc g args).run Tryz.prog w=.ok (.enter g args) w) (q:CmpLays Tryz.prog g I enc 6 G blk off h.size z) (J:SWO (ltOf G)) (A:h.size<4611686018427387904) :
  ∀ N,M4 Tryz.prog enc 6 z blk off cap h.size g I h (Y3 (ltOf G) tag) tag N
 | 0=>by rintro W a m b _ _ _ L rfl rfl rfl U;omega
 | N+1=>Aj sp_w Tryz.func257 (λ_ _=>Kr) (λ_ _=>Kr) enc z blk off cap g I G tag h R K q J A
   (by
     rintro W a m b _ _ _ L rfl rfl rfl h1 h2 h3 h4 M
     exact Zin enc z W blk off cap a m b h.size h L R h4 M h4.symm h1 h2 h3 Om _) N (Zew enc z blk off cap g I G tag h R K q J A N)
theorem Zh8{α:Type}[Inhabited α](enc:α->List Value)(Y:World)(blk off cap g:Nat)(cb:Array Value)(K:α->α->Int)(tag:α->Nat)(I:Array α)(R:RowK enc 6 Y blk off I)
  (eg:∀ args w,(callFunc g args).run Tryz.prog w=.ok (.enter g args) w) (V:CmpLays Tryz.prog g cb enc 6 K blk off I.size Y) (hS:SWO (ltOf K)) (af:I.size<1152921504606846976) (ht:∀ i,i<I.size->tag I[i]! = i) :
  Calls Tryz.prog 226 #[.slice (some ⟨blk,off,none⟩) I.size cap,.int .i64 I.size,.func (.func g) #[] cb] Y λe w'=>e=.returned (.tuple #[])/\∃ d',d'.toList=Z6 (ltOf K) I.toList/\d'.size=I.size/\SWK enc 6 Y blk off d' w':=by
 have W:=Zbd enc Y blk off cap g cb K I R eg V hS Om;have aa:=λN=>Zew enc Y blk off cap g cb K tag I R eg V hS Om N
 have HS:Aside _:=hS;have H0:=Hd (SWK.start R.hH);obtain⟨n,hn⟩:∃ n,n=I.size:=⟨_,rfl⟩;rw[<- hn]at af ht W⊢;have aa:Aside (∀ N,M4 Tryz.prog enc 6 Y blk off cap n g cb I (Y3 (ltOf K) tag) tag N):=λN=>by rw[hn];exact aa N
 have W:Aside _:=W;have HT:Aside _:=ht;have J:=Hd hn;clear R V hS ht eg hn;go_enter Tryz.func226,Tryz.ntmps226
 go_wp2_with fail
 go_loopg [7,8] n (λg1 va vb wr=>∃ (t A:Nat) (q:Array α),Hid (A=t*20)/\va=.int .i64 A/\vb=.int .i64 ((A:Int)+20)/\A<=n/\n<=A+g1/\Hid (U5 (Y3 (ltOf K) tag) tag n t I q)/\Hid (SWK enc 6 Y blk off q wr))
 case atStart=>exact⟨0,0,I,rfl,rfl,rfl,Om,Om,U5.start,H0⟩
 case round =>
  obtain⟨t,A,q,z,rfl,rfl,aj,hg,HF,X⟩:=hrel;have G:Hid (q.size=I.size):=HF.out.perm.1;by_cases ah:A+20<=n
  ·have U:(A:Int)+20<=(n:Int):=Om;have L:=W.out wr A (A+20) A ((A:Int)+20) q rfl Om Om (by have:=G.out;have:=J.out;omega) G.out X.out;have M:=Hd (Wq (tag:=tag) HS.out q A (A+20) Om (by have:=G.out;have:=J.out;omega) (by rw[z.out];exact HF.out.tags J HT.out (by have:=z.out;omega)));go_wp2_with (go_at_call 256;refine L.mono ?_;rintro e W1 ⟨rfl,h2⟩;clear L)
   go_roundg (n-(A+20))
   case measure=>omega
   case rel=>exact⟨t+1,A+20,_,by have:=z.out;show _=_;omega,by go_num,by go_num,Om,Om,HF.out.step J HT.out (by have:=z.out;omega) (by rw[<- z.out];exact M),h2⟩
  ·have U:¬ (A:Int)+20<=(n:Int):=Om;have L:=W.out wr A n A n q rfl rfl Om (by have:=G.out;have:=J.out;omega) G.out X.out;have M:=Hd (Wq (tag:=tag) HS.out q A n Om (by have:=G.out;have:=J.out;omega) (by rw[z.out];exact HF.out.tags J HT.out (Nl _)));have L0:Hid (Tq (Y3 (ltOf K) tag) tag n 20 I (insertionSort (ltOf K) q A n)):=HF.out.close J HT.out (by have:=z.out;omega) (by have:=z.out;omega) (by rw[<- z.out];exact M);clear M;generalize insertionSort (ltOf K) q A n=dz at L L0;go_wp2_with (go_at_call 256;refine L.mono ?_;rintro e W1 ⟨rfl,h2⟩;clear L;have H2:=Hd h2;clear h2)
   go_loopg [6] n (λg1 vb wr=>∃ (h:Nat) (q:Array α),vb=.int .i64 h/\20<=h/\n<=h+g1/\h<=n+n+20/\Hid (Tq (Y3 (ltOf K) tag) tag n h I q)/\Hid (SWK enc 6 Y blk off q wr))
   case atStart=>exact⟨20,dz,rfl,Om,Om,Om,L0,H2⟩
   case round =>
    clear G HF X L0 H2;obtain⟨h,q,rfl,ai,hg,al,HL,X⟩:=hrel;by_cases ah:h<n
    ·have U:(h:Int)<(n:Int):=Om;go_wp2_with fail
     go_loopg [7,8] n (λg1 va vb wr=>∃ (k A:Nat) (q:Array α),Hid (A=2*k*h)/\va=.int .i64 A/\vb=.int .i64 ((A:Int)+2*h)/\A<=n/\n<=A+g1/\Hid (L9 (Y3 (ltOf K) tag) tag n h k I q)/\Hid (SWK enc 6 Y blk off q wr))
     case atStart=>exact⟨0,0,q,by show _=_;omega,rfl,by go_num,Om,Om,HL.out.start,X.out⟩
     case round =>
      clear HL X;obtain⟨k,A,q,z,rfl,rfl,ae,ak,HP,X⟩:=hrel;have G:Hid (q.size=I.size):=HP.out.perm.1;have ad:Hid (q.size=n):=G.out.trans J.out.symm;by_cases ab:A+2*h<=n
      ·have ac:(A:Int)+2*h<=(n:Int):=Om;obtain⟨p1,Z⟩:=HP.out.pair J (by rw[<- z.out];exact ab);rw[<- z.out]at p1 Z;have L:=aa.out (2*h+1) wr A (A+h) (A+2*h) A ((A:Int)+h) ((A:Int)+2*h) q rfl Om Om Om Om Om (by have:=ad.out;omega) G.out X.out p1.1 Z.1 (p1.tags Z);clear p1 Z;go_wp2_with (go_at_call 257;refine L.mono ?_;rintro e W1 ⟨rfl,d',h2,h3⟩;clear L;have H2:=Hd h2;have H3:=Hd h3;clear h2 h3)
       go_roundg (n-(A+2*h))
       case measure=>omega
       case rel=>exact⟨k+1,A+2*h,d',by have:=z.out;show _=_;rw[(Om:2*(k+1)=2*k+2),Nat.add_mul,<- this],by go_num,by go_num,Om,Om,HP.out.step J (by rw[<- z.out];exact ab) (by rw[<- z.out];exact H2),H3⟩
      ·have ac:¬ (A:Int)+2*h<=(n:Int):=Om;by_cases hm:A+h<n
       ·have ag:(A:Int)+h<(n:Int):=Om;obtain⟨p1,Z⟩:=HP.out.tail J (by rw[<- z.out];exact hm) (by rw[<- z.out];omega);rw[<- z.out]at p1 Z;have L:=aa.out (2*h+1) wr A (A+h) n A ((A:Int)+h) n q rfl Om rfl Om Om hm (by have:=ad.out;omega) G.out X.out p1.1 Z.1 (p1.tags Z);clear p1 Z;go_wp2_with (go_at_call 257;refine L.mono ?_;rintro e W1 ⟨rfl,d',h2,h3⟩;clear L;have H2:=Hd h2;have H3:=Hd h3;clear h2 h3)
        go_roundg (n-h*2)
        case measure=>omega
        case rel=>exact⟨h*2,d',by go_num,Om,Om,Om,by rw[Nat.mul_comm];exact HP.out.close J (by rw[<- z.out];exact ae) (by rw[<- z.out];omega) (.inr (by rw[<- z.out];exact⟨hm,H2⟩)),H3⟩
       ·have ag:¬ (A:Int)+h<(n:Int):=Om;have L2:Hid (Tq (Y3 (ltOf K) tag) tag n (2*h) I q):=HP.out.close J (by rw[<- z.out];exact ae) (by rw[<- z.out];omega) (.inl ⟨rfl,by rw[<- z.out];omega⟩);go_wp2_with fail
        go_roundg (n-h*2)
        case measure=>omega
        case rel=>exact⟨h*2,q,by go_num,Om,Om,Om,by rw[Nat.mul_comm];exact L2,X⟩
    ·have U:¬ (h:Int)<(n:Int):=Om;go_wp2_with fail
     go_end0
     exact⟨rfl,q,HL.out.stable HS.out J Om (λi hi=>HT.out i hi),by rw[J.out];exact HL.out.perm.1,X.out⟩
theorem Db{α:Type}[Inhabited α](enc:α->List Value)(z:World)(blk off cap g:Nat)(J:Array Value)(G:α->α->Int)(tag:α->Nat)(h:Array α)(R:RowK enc 6 z blk off h)
  (U:∀ args w,(callFunc g args).run Tryz.prog w=.ok (.enter g args) w) (q:CmpLays Tryz.prog g J enc 6 G blk off h.size z) (M:SWO (ltOf G)) (A:h.size<1152921504606846976) (L:∀ i,i<h.size->tag h[i]! = i) :
  Calls Tryz.prog 179 #[.slice (some ⟨blk,off,none⟩) h.size cap,.func (.func g) #[] J] z λe w'=>e=.returned (.tuple #[])/\∃ I,I.toList=Z6 (ltOf G) h.toList/\I.size=h.size/\SWK enc 6 z blk off I w':=by
 have K:=Zh8 enc z blk off cap g J G tag h R U q M A L;generalize h.size=n at K⊢;clear R q M A L U;go_enter Tryz.func179,Tryz.ntmps179
 go_wp2_with (go_at_call 226;refine K.mono ?_;rintro e V ⟨rfl,h2⟩;clear K)
 go_end0
 exact⟨rfl,h2⟩
end
section
open Go.Shelf Go.RowKit Go.Lib Go.Sort SS
theorem Znm(A:Option Addr)(cap:Nat)(v:Value)(w:World):Calls Tryz.prog 256 #[.slice A 0 cap,.int .i64 0,.int .i64 0,v] w λe w'=>e=.returned (.tuple #[])/\w'=w:=by
 go_enter Tryz.func256,Tryz.ntmps256
 go_wp2_with fail
 go_loopw [8] (λv wr=>v=.int .i64 1/\wr=w) (λ_ _=>0)
 case atStart=>exact⟨rfl,rfl⟩
 case round =>
  obtain⟨rfl,rfl⟩:=hrel;go_wp2_with fail
  go_end0
  exact⟨rfl,rfl⟩
theorem Zli(A:Option Addr)(cap:Nat)(v:Value)(w:World):Calls Tryz.prog 226 #[.slice A 0 cap,.int .i64 0,v] w λe w'=>e=.returned (.tuple #[])/\w'=w:=by
 go_enter Tryz.func226,Tryz.ntmps226
 go_wp2_with fail
 go_loopw [7,8] (λa b wr=>a=.int .i64 0/\b=.int .i64 20/\wr=w) (λ_ _ _=>0)
 case atStart=>exact⟨rfl,rfl,rfl⟩
 case round =>
  obtain⟨rfl,rfl,rfl⟩:=hrel;have h:=Znm A cap v wr;go_wp2_with (go_at_call 256;refine h.mono ?_;rintro e q ⟨rfl,rfl⟩;clear h)
  go_loopw [6] (λv wr=>v=.int .i64 20/\wr=q) (λ_ _=>0)
  case atStart=>exact⟨rfl,rfl⟩
  case round =>
   obtain⟨rfl,rfl⟩:=hrel;go_wp2_with fail
   go_end0
   exact⟨rfl,rfl⟩
theorem Zlm(A:Option Addr)(cap:Nat)(v:Value)(w:World):Calls Tryz.prog 179 #[.slice A 0 cap,v] w λe w'=>e=.returned (.tuple #[])/\w'=w:=by
 have h:=Zli A cap v w;go_enter Tryz.func179,Tryz.ntmps179
 go_wp2_with (go_at_call 226;refine h.mono ?_;rintro e q ⟨rfl,rfl⟩;clear h)
 go_end0
 exact⟨rfl,rfl⟩
theorem Zge{α:Type}[Inhabited α](enc:α->List Value)(M:∀ x,(enc x).length=6)(h1:∀ x,∀ v∈enc x,v.oneCell'=true)(I:α->α->Int)(tag:α->Nat)(B T n g:Nat)(v:Value)(z:List α)(w:World)(h:w.ownsRow B T 6 v n (z.flatMap enc))(A:z.length=n)
  (X:∀ args w,(callFunc g args).run Tryz.prog w=.ok (.enter g args) w) (G:∀ (x y:α) (w:World),Calls Tryz.prog g #[.agg (enc x).toArray,.agg (enc y).toArray] w λe w'=>e=.returned (.int .i64 (I x y))/\∃ q os,w'=grow (w.drewN q) os) (V:SWO (ltOf I)) (J:n<1152921504606846976) (U:∀ i (hi:i<z.length),tag z[i]=i) :
  Calls Tryz.prog 179 #[v,.func (.func g) #[] #[]] w λe w'=>e=.returned (.tuple #[])/\w'.ownsRow B T 6 v n ((Z6 (ltOf I) z).flatMap enc)/\Fr (λj=>v.ownBlock=some j) w w':=by
 rcases id h with ⟨hl,⟨rfl,rfl⟩|⟨W,cap,aa,rfl,hb,hc,h2,h3,h4,h5⟩⟩
 ·have:z=[]:=List.eq_nil_of_length_eq_zero A;subst this;refine (Zlm none 0 _ w).mono ?_;rintro e w' ⟨rfl,rfl⟩;exact⟨rfl,h,Fl _⟩
 ·have R:=Ib (d:=z.toArray) h M h1 rfl (by simp[A])
  have:=Db enc w W 0 cap g #[] I tag z.toArray R X (by
   intro m os dk _ x y
   exact G x y _) V (by simp[A];exact J) (λi hi=>by
    have K:i<z.length:=(by simpa using hi);rw[getElem!_pos _ i hi]
    simpa using U i K)
  rw[show z.toArray.size=n by simp[A]]at this;refine this.mono ?_;rintro e w' ⟨rfl,d',Z,Y,L⟩;refine⟨rfl,?_,(Zcp L).mono (λj _ q=>by rw[q];rfl)⟩;have:=Dz h M (Y.trans (by simp[A])) L;rw[Z]at this;exact this
end
end Go.Proofs.YtlfoalomaofejaaGreatDoor
