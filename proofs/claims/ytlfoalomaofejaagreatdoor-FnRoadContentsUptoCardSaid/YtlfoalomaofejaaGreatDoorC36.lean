/- The symmetric merge (slices.sy -/
import Derived.Test.YtlfoalomaofejaaGreatDoorC6
import Derived.Deep.CutRange
import Derived.Deep.CutBlock
set_option linter.all false
set_option maxRecDepth 100000
set_option maxHeartbeats 4000000
namespace Go.Proofs.YtlfoalomaofejaaGreatDoor
open Go.Shelf Go.RowKit Go.Lib Go.Sort SS
def Mo{α:Type}[Inhabited α](P:Program)(enc:α->List Value)(k:Nat)(w0:World)(blk off cap sz g:Nat)(cb:Array Value)(d0:Array α)(L:α->α->Bool)(tag:α->Nat)(N:Nat):Prop :=
 ∀ (W:World) (a m b:Nat) (ai mi bi:Int) (dk:Array α),ai=a->mi=m->bi=b->b-a<N->a<m->m<b->b<=dk.size->dk.size=d0.size->SWK enc k w0 blk off dk W->SortedIn L a m dk->SortedIn L m b dk->(∀ i j,a<=i->i<m->m<=j->j<b->tag dk[i]! < tag dk[j]!) ->
  Calls P 263 #[.slice (some ⟨blk,off,none⟩) sz cap,.int .i64 ai,.int .i64 mi,.int .i64 bi,.func (.func g) #[] cb] W λe w'=>e=.returned (.tuple #[])/\∃ d',Mg L dk a b d'/\SWK enc k w0 blk off d' w'
def Zm2{α:Type}[Inhabited α](P:Program)(enc:α->List Value)(k:Nat)(w0:World)(blk off cap sz:Nat)(v:Value)(d0:Array α):Prop :=
 ∀ (W:World) (a m b:Nat) (ai mi bi:Int) (dk:Array α),ai=a->mi=m->bi=b->a<m->m<b->b<=dk.size->dk.size=d0.size->SWK enc k w0 blk off dk W ->
  Calls P 280 #[.slice (some ⟨blk,off,none⟩) sz cap,.int .i64 ai,.int .i64 mi,.int .i64 bi,v] W λe w'=>e=.returned (.tuple #[])/\∃ d',Vj dk a m b d'/\SWK enc k w0 blk off d' w'
theorem Bm{P:Program}{k:Nat}(L:SPr P k)(F:P.funcs[263]?=some Tryz.f263)(ec:∀ args w,(callFunc 263 args).run P w=.ok (.enter 263 args) w)(er:∀ args w,(callFunc 280 args).run P w=.ok (.enter 280 args) w)
  {α:Type} [Inhabited α] (enc:α->List Value) (w0:World) (blk off cap g:Nat) (cb:Array Value) (cf:α->α->Int) (tag:α->Nat) (d0:Array α) (R:RowK enc k w0 blk off d0)
  (eg:∀ args w,(callFunc g args).run P w=.ok (.enter g args) w) (hcmp:CmpLays P g cb enc k cf blk off d0.size w0) (hS:SWO (ltOf cf)) (hsz:d0.size<4611686018427387904) (hrot:Zm2 P enc k w0 blk off cap d0.size (.func (.func g) #[] cb) d0)
  (N:Nat) (hrec:Mo P enc k w0 blk off cap d0.size g cb d0 (Yx (ltOf cf) tag) tag N):Mo P enc k w0 blk off cap d0.size g cb d0 (Yx (ltOf cf) tag) tag (N+1):=by
 rintro W a m b _ _ _ dk rfl rfl rfl hN ham hmb hb hs hW hA hB ht;have mixed:=L.mixed;have t0:=L.t0;have a0:=L.a0;have z0:=L.z0;have v0:=L.v0;have t3:=L.t3;have a3:=L.a3;have z3:=L.z3;have v3:=L.v3;have t4:=L.t4;have a4:=L.a4;have z4:=L.z4;have v4:=L.v4;have t246:=L.t246;have a246:=L.a246;have z246:=L.z246;have v246:=L.v246;have tS:=L.tS;have aS:=L.aS;have zS:=L.zS;have vS:=L.vS;have tF:=L.tF;have aF:=L.aF;have zF:=L.zF;have vF:=L.vF;have aE:=L.aE;have zE:=L.zE;have uS:=run_underlying L.tS;have hL:=Nx (tag:=tag) hS;have hsD:dk.size<4611686018427387904:=Om
 have RR:Aside _:=R;have HW:Aside _:=hW;have HC:Aside _:=hcmp;have HL:Aside _:=hL;have HR:Aside _:=Ai1 hrot hrec;have HA:Aside _:=Ai1 hA (Ai1 hB ht);have HS:=Hd hs;clear R hW hs hcmp hL hS hrot hrec hA hB ht L;by_cases c1:m-a=1
 ·have c1z:(m:Int)-a=1:=Om
  go_enter F,Tryz.ntmps263
  go_wp2
  go_loopg [10,11] (b-m) (λg1 vi vj wr=>∃ (i j:Nat),vi=.int .i64 i/\vj=.int .i64 j/\m<=i/\i<=j/\j<=b/\j-i<=g1/\Hid (Ut (λc=>Yx (ltOf cf) tag dk[c]! dk[a]!) m b i j)/\Hid (SWK enc k w0 blk off dk wr))
  case atStart=>exact⟨m,b,rfl,rfl,Nl _,Om,Nl _,Om,Ut.start _ Om,HW.out⟩
  case round =>
   obtain⟨i,j,rfl,rfl,hi,hij,hj,hg,HQ,HWr⟩:=hrel;by_cases hlt:i<j
   ·have hltz:(i:Int)<(j:Int):=Om;have srt:∀ x y,x<dk.size->y<dk.size->tag dk[y]! < tag dk[x]! -> Yx (ltOf cf) tag dk[x]! dk[y]! = decide (cf dk[x]! dk[y]! < 0):=λx y _ _ ht=>Xv ht
    go_wp2_with fail
    obtain⟨h,hh⟩:∃ h:Nat,((i:Int)+j) / 2=h:=⟨(i+j) / 2,Om⟩;rw[hh];have hih:i<=h:=Om;have hhj:h<j:=Om;have x1:h<dk.size:=Om;have x2:a<dk.size:=Om;have z1:(h:Int)<d0.size:=by have:=HS.out;omega
    have z2:(a:Int)<d0.size:=by have:=HS.out;omega
    obtain⟨vx,hvx⟩:∃ x,dk[h]! = x:=⟨_,rfl⟩;obtain⟨vy,hvy⟩:∃ x,dk[a]! = x:=⟨_,rfl⟩;have lx:=HWr.out.ld RR.out HS.out P h x1;have ly:=HWr.out.ld RR.out HS.out P a x2;have hcg:∀ n os,_:=λn os=>HWr.out.cmp HC.out HS.out vx vy n os
    have CLS:∀ n os,Hid (SWK enc k w0 blk off dk (grow (wr.drewN n) os)):=λn os=>HWr.out.grown n os
    have CLS:Hid _:=CLS
    have Q:Hid (Yx (ltOf cf) tag dk[h]! dk[a]! = decide (cf vx vy<0)):=by
     rw[<- hvx,<- hvy];exact srt h a x1 x2 (HA.out.2.2 a h (Nl _) Om Om Om)
    have MO:Hid (Ml (λc=>Yx (ltOf cf) tag dk[c]! dk[a]!) m b):=Zcf HL.out HA.out.2.1;rw[hvx]at lx;rw[hvy]at ly;clear srt hh hltz hvx hvy;by_cases hlv:cf vx vy<0
    ·go_quiet_grown (first|(go_at_fn g;refine Calls.grown_of (hcg _ _)))
     go_wp2
     go_roundg (j-(h+1))
     case measure=>omega
     case rel=>exact⟨h+1,j,by go_num,rfl,Om,Om,hj,Om,HQ.out.up MO.out hih hhj (Q.out.trans (decide_eq_true hlv)),CLS.out nq osq⟩
    ·go_quiet_grown (first|(go_at_fn g;refine Calls.grown_of (hcg _ _)))
     go_wp2
     go_roundg (h-i)
     case measure=>omega
     case rel=>exact⟨i,h,rfl,by go_num,hi,hih,Om,Om,HQ.out.down MO.out hih hhj (Q.out.trans (decide_eq_false Om)),CLS.out nq osq⟩
   ·have hltz:¬ (i:Int)<(j:Int):=Om;have he:j=i:=Om;subst he
    go_wp2
    go_loopg [13] (j-1-a) (λg1 vk wr=>∃ (c:Nat) (di:Array α),vk=.int .i64 c/\a<=c/\c+1<=j/\j-1-c<=g1/\Hid (Vj dk a (a+1) (c+1) di)/\Hid (SWK enc k w0 blk off di wr))
    case atStart=>exact⟨a,dk,rfl,Nl _,Om,Om,Jj dk a,HWr.out⟩
    case round =>
     obtain⟨c,di,rfl,hc1,hc2,hg2,HT,HWi⟩:=hrel;by_cases hlt2:c<j-1
     ·have hltz2:(c:Int)<(j:Int)-1:=Om;have hs0:di.size=d0.size:=HT.out.1.trans HS;have x1:c<di.size:=by have:=HS.out;omega
      have x2:c+1<di.size:=by have:=HS.out;omega
      obtain⟨ex,hex⟩:∃ q,enc di[c]! = q:=⟨_,rfl⟩;obtain⟨ey,hey⟩:∃ q,enc di[c+1]! = q:=⟨_,rfl⟩;have l1:=HWi.out.ld1 RR.out hs0 P (c+1) x2;have l2:=HWi.out.ld1 RR.out hs0 P c x1;have s1:=HWi.out.st1 RR.out hs0 P c x1 di[c+1]!;have s2:=HWi.out.st2 RR.out hs0 P c (c+1) x1 x2 di[c+1]! di[c]!;have HN:=Hd (HWi.out.swapped RR.out c (c+1) x1 x2);have y1:ex.length=k:=by rw[<- hex];exact RR.out.hk _
      have y2:ey.length=k:=by rw[<- hey];exact RR.out.hk _
      rw[hex]at l2 s2;rw[hey]at l1 s1 s2;have CC:=Hd (Ai1 hex hey);have z1:(c:Int)<d0.size:=Om;have z2:(c:Int)+1<d0.size:=Om;have SZ:=Hd hs0;clear hex hey hs0;go_wp2_with fail
      go_big_region_o
      all_goals go_wp2
      go_roundg (j-1-(c+1))
      case measure=>omega
      case rel=>exact⟨c+1,swp di c (c+1),by go_num,Om,Om,Om,Jk HT.out hc1 (by have:=SZ.out;have:=HS.out;omega),by rw[CC.1,CC.2]at HN;exact HN⟩
     ·have hltz2:¬ (c:Int)<(j:Int)-1:=Om
      go_wp2
      have e:c+1=j:=Om;subst e;obtain⟨q1,q2,q3,q4,q5⟩:=HQ.out;exact bodyPost_ret (results_none rfl _ _ _) rfl ⟨rfl,di,Zci HL.out HT.out Om hj hb (by have:=HA.out.2.1;rwa[(Om:m=a+1)]at this) (λx h1 h2=>q4 x Om h2) (λx h1 h2=>q5 x h1 h2),HWi.out⟩
 ·have c1z:¬ (m:Int)-a=1:=Om
  have c1b:(((m:Int)-a)==1)=false:=by simpa using c1z
  by_cases c2:b-m=1
  ·have c2z:(b:Int)-m=1:=Om;go_enter F,Tryz.ntmps263
   go_wp2
   go_loopg [14,15] (m-a) (λg1 vi vj wr=>∃ (i j:Nat),vi=.int .i64 i/\vj=.int .i64 j/\a<=i/\i<=j/\j<=m/\j-i<=g1/\Hid (Ut (λc=>!Yx (ltOf cf) tag dk[m]! dk[c]!) a m i j)/\Hid (SWK enc k w0 blk off dk wr))
   case atStart=>exact⟨a,m,rfl,rfl,Nl _,Om,Nl _,Om,Ut.start _ Om,HW.out⟩
   case round =>
    obtain⟨i,j,rfl,rfl,hi,hij,hj,hg,HQ,HWr⟩:=hrel;by_cases hlt:i<j
    ·have hltz:(i:Int)<(j:Int):=Om;have srt:∀ x y,x<dk.size->y<dk.size->tag dk[y]! < tag dk[x]! -> Yx (ltOf cf) tag dk[x]! dk[y]! = decide (cf dk[x]! dk[y]! < 0):=λx y _ _ ht=>Xv ht
     go_wp2_with fail
     obtain⟨h,hh⟩:∃ h:Nat,((i:Int)+j) / 2=h:=⟨(i+j) / 2,Om⟩;rw[hh];have hih:i<=h:=Om;have hhj:h<j:=Om;have x1:h<dk.size:=Om;have x2:m<dk.size:=Om;have z1:(h:Int)<d0.size:=by have:=HS.out;omega
     have z2:(m:Int)<d0.size:=by have:=HS.out;omega
     obtain⟨vx,hvx⟩:∃ x,dk[h]! = x:=⟨_,rfl⟩;obtain⟨vy,hvy⟩:∃ x,dk[m]! = x:=⟨_,rfl⟩;have lx:=HWr.out.ld RR.out HS.out P h x1;have ly:=HWr.out.ld RR.out HS.out P m x2;have hcg:∀ n os,_:=λn os=>HWr.out.cmp HC.out HS.out vy vx n os
     have CLS:∀ n os,Hid (SWK enc k w0 blk off dk (grow (wr.drewN n) os)):=λn os=>HWr.out.grown n os
     have CLS:Hid _:=CLS
     have Q:Hid (Yx (ltOf cf) tag dk[m]! dk[h]! = decide (cf vy vx<0)):=by
      rw[<- hvx,<- hvy];exact srt m h x2 x1 (HA.out.2.2 h m Om Om (Nl _) Om)
     have MO:Hid (Ml (λc=>!Yx (ltOf cf) tag dk[m]! dk[c]!) a m):=Zce HL.out HA.out.1;rw[hvx]at lx;rw[hvy]at ly;clear srt hh hltz hvx hvy;by_cases hlv:cf vy vx<0
     ·go_quiet_grown (first|(go_at_fn g;refine Calls.grown_of (hcg _ _)))
      go_wp2
      go_roundg (h-i)
      case measure=>omega
      case rel=>exact⟨i,h,rfl,by go_num,hi,hih,Om,Om,HQ.out.down MO.out hih hhj (by show (!_)=false;rw[Q.out,decide_eq_true hlv];rfl),CLS.out nq osq⟩
     ·go_quiet_grown (first|(go_at_fn g;refine Calls.grown_of (hcg _ _)))
      go_wp2
      go_roundg (j-(h+1))
      case measure=>omega
      case rel=>exact⟨h+1,j,by go_num,rfl,Om,Om,hj,Om,HQ.out.up MO.out hih hhj (by show (!_)=true;rw[Q.out,decide_eq_false Om];rfl),CLS.out nq osq⟩
    ·have hltz:¬ (i:Int)<(j:Int):=Om;have he:j=i:=Om;subst he
     go_wp2
     go_loopg [17] (m-j) (λg1 vk wr=>∃ (c:Nat) (di:Array α),vk=.int .i64 c/\j<=c/\c<=m/\c-j<=g1/\Hid (Vj dk c m (m+1) di)/\Hid (SWK enc k w0 blk off di wr))
     case atStart=>exact⟨m,dk,rfl,Om,Nl _,Om,Jl dk m,HWr.out⟩
     case round =>
      obtain⟨c,di,rfl,hc1,hc2,hg2,HT,HWi⟩:=hrel;by_cases hlt2:j<c
      ·have hltz2:(j:Int)<(c:Int):=Om;obtain⟨c,rfl⟩:∃ q,c=q+1:=⟨c-1,Om⟩;have hs0:di.size=d0.size:=HT.out.1.trans HS;have x1:c<di.size:=by have:=HS.out;omega
       have x2:c+1<di.size:=by have:=HS.out;omega
       obtain⟨ex,hex⟩:∃ q,enc di[c]! = q:=⟨_,rfl⟩;obtain⟨ey,hey⟩:∃ q,enc di[c+1]! = q:=⟨_,rfl⟩;have l1:=HWi.out.ld1 RR.out hs0 P (c+1) x2;have l2:=HWi.out.ld1 RR.out hs0 P c x1;have s1:=HWi.out.st1 RR.out hs0 P (c+1) x2 di[c]!;have s2:=HWi.out.st2 RR.out hs0 P (c+1) c x2 x1 di[c]! di[c+1]!;have HN:=Hd (HWi.out.swapped RR.out (c+1) c x2 x1);have y1:ex.length=k:=by rw[<- hex];exact RR.out.hk _
       have y2:ey.length=k:=by rw[<- hey];exact RR.out.hk _
       rw[hex]at l2 s1 s2;rw[hey]at l1 s2;have CC:=Hd (Ai1 hex hey);have z1:(c:Int)<d0.size:=Om;have z2:(c:Int)+1<d0.size:=Om;have z3:(0:Int)<=(c:Int)+1:=Om;have z4:((c:Int)+1).toNat=c+1:=Om;have SZ:=Hd hs0;clear hex hey hs0;go_wp2_with fail
       go_big_region_o
       all_goals go_wp2
       go_roundg (c-j)
       case measure=>omega
       case rel=>exact⟨c,swp di (c+1) c,by go_num,Om,Om,Om,Jm HT.out hc2 (by have:=HS.out;omega),by rw[CC.1,CC.2]at HN;exact HN⟩
      ·have hltz2:¬ (j:Int)<(c:Int):=Om
       go_wp2
       have e:c=j:=Om;subst e;obtain⟨q1,q2,q3,q4,q5⟩:=HQ.out;have hb1:m+1=b:=Om;refine bodyPost_ret (results_none rfl _ _ _) rfl ⟨rfl,di,?_,HWi.out⟩;rw[<- hb1];exact Zch HL.out HT.out Om hj Om HA.out.1 (λx h1 h2=>by simpa using q4 x h1 h2) (λx h1 h2=>by simpa using q5 x h1 h2)
  ·have c2z:¬ (b:Int)-m=1:=Om;have c2b:(((b:Int)-m)==1)=false:=(by simpa using c2z);obtain⟨mid,hmid⟩:∃ q,q=(a+b) / 2:=⟨_,rfl⟩;obtain⟨n,hn⟩:∃ q,q=mid+m:=⟨_,rfl⟩;obtain⟨lo,hlo⟩:∃ q,q=if m > mid then n-b else a:=⟨_,rfl⟩
   obtain⟨hi,hhi⟩:∃ q,q=if m > mid then mid else m:=⟨_,rfl⟩
   have hmz:((a:Int)+b) / 2=mid:=Om;have hnz:(mid:Int)+m=n:=Om;have f1:a<=lo:=by split at hlo<;>omega
   have f2:hi<=m:=by split at hhi<;>omega
   have f4:n-lo<=b:=by split at hlo<;>omega
   have f5:lo<=hi:=by split at hlo<;>split at hhi<;>omega
   have f6:lo<=n:=by split at hlo<;>omega
   have f7:∀ c,lo<=c->c<hi->m<=n-1-c/\c<n:=λc _ _=>by split at hhi<;>omega
   have HM:Hid (mid=(a+b) / 2/\n=mid+m/\lo=(if m > mid then n-b else a)/\hi=(if m > mid then mid else m)):=⟨hmid,hn,hlo,hhi⟩;have F7:Aside _:=f7;have ham2:a<mid:=Om;have hmb2:mid<b:=Om;have HMZ:=Hd (Ai1 hmz hnz);clear f7 hmid hn hlo hhi hmz hnz;go_enter F,Tryz.ntmps263
   go_upto_region 25 with fail
   rw[HMZ.1]
   go_upto_if 140 with fail
   rw[HMZ.2];obtain⟨hmid,hn,hlo,hhi⟩:=HM.out
   go_cut [20,21] from 138 to 146 (λx y wx=>x=.int .i64 lo/\y=.int .i64 hi/\wx=W)
   case first =>
    by_cases hc:mid<m
    ·have hcz:(mid:Int)<m:=Om;rw[if_pos hc]at hlo hhi;subst hhi;have e1:(n:Int)-b=lo:=Om;clear hlo hmid hn;go_wp2_with fail
     go_meet
     case rel=>exact⟨by first|rfl|rw[e1],rfl,rfl⟩
    ·have hcz:¬ (mid:Int)<m:=Om;rw[if_neg hc]at hlo hhi;subst hlo hhi;clear hmid hn;go_wp2_with fail
     go_meet
     case rel=>exact⟨rfl,rfl,rfl⟩
   case rest =>
    obtain⟨rfl,rfl,rfl⟩:=hcut;clear hmid hn hlo hhi;go_step;go_wp2_with fail
    go_loopg [20,21] (hi-lo) (λg1 vi vj wr=>∃ (i j:Nat),vi=.int .i64 i/\vj=.int .i64 j/\lo<=i/\i<=j/\j<=hi/\j-i<=g1/\Hid (Ut (λc=>!Yx (ltOf cf) tag dk[n-1-c]! dk[c]!) lo hi i j)/\Hid (SWK enc k w0 blk off dk wr))
    case atStart=>exact⟨lo,hi,rfl,rfl,Nl _,Om,Nl _,Om,Ut.start _ Om,HW.out⟩
    case round =>
     obtain⟨i,j,rfl,rfl,hi1,hij,hj,hg,HQ,HWr⟩:=hrel;by_cases hlt:i<j
     ·have hltz:(i:Int)<(j:Int):=Om;have srt:∀ x y,x<dk.size->y<dk.size->tag dk[y]! < tag dk[x]! -> Yx (ltOf cf) tag dk[x]! dk[y]! = decide (cf dk[x]! dk[y]! < 0):=λx y _ _ ht=>Xv ht
      go_wp2_with fail
      obtain⟨h,hh⟩:∃ h:Nat,((i:Int)+j) / 2=h:=⟨(i+j) / 2,Om⟩;rw[hh];have hih:i<=h:=Om;have hhj:h<j:=Om;have f8:=F7.out h Om Om;obtain⟨p,hp⟩:∃ p,n-1-h=p:=⟨_,rfl⟩;have hpz:(n:Int)-1-h=p:=Om;have hwp:IntKind.i64.wrap (p:Int)=(p:Int):=by rw[IntKind.wrap_i64];omega
      have x1:h<dk.size:=Om;have x2:p<dk.size:=Om;have z1:(h:Int)<d0.size:=by have:=HS.out;omega
      have z2:(p:Int)<d0.size:=by have:=HS.out;omega
      obtain⟨vx,hvx⟩:∃ x,dk[h]! = x:=⟨_,rfl⟩;obtain⟨vy,hvy⟩:∃ x,dk[p]! = x:=⟨_,rfl⟩;have lx:=HWr.out.ld RR.out HS.out P h x1;have ly:=HWr.out.ld RR.out HS.out P p x2;have hcg:∀ n os,_:=λn os=>HWr.out.cmp HC.out HS.out vy vx n os
      have CLS:∀ n os,Hid (SWK enc k w0 blk off dk (grow (wr.drewN n) os)):=λn os=>HWr.out.grown n os
      have CLS:Hid _:=CLS
      have Q:Hid (Yx (ltOf cf) tag dk[n-1-h]! dk[h]! = decide (cf vy vx<0)):=by
       rw[hp,<- hvx,<- hvy];exact srt p h x2 x1 (HA.out.2.2 h p Om Om Om Om)
      have MO:Hid (Ml (λc=>!Yx (ltOf cf) tag dk[n-1-c]! dk[c]!) lo hi):=Zcd HL.out HA.out.1 HA.out.2.1 f1 f2 Om F7.out;rw[hvx]at lx;rw[hvy]at ly;clear srt hh hltz hvx hvy hp f8;by_cases hlv:cf vy vx<0
      ·go_quiet_grown (first|(go_at_fn g;refine Calls.grown_of (hcg _ _)))
       go_wp2
       go_roundg (h-i)
       case measure=>omega
       case rel=>exact⟨i,h,rfl,by go_num,hi1,hih,Om,Om,HQ.out.down MO.out hih hhj (by show (!_)=false;rw[Q.out,decide_eq_true hlv];rfl),CLS.out nq osq⟩
      ·go_quiet_grown (first|(go_at_fn g;refine Calls.grown_of (hcg _ _)))
       go_wp2
       go_roundg (j-(h+1))
       case measure=>omega
       case rel=>exact⟨h+1,j,by go_num,rfl,Om,Om,hj,Om,HQ.out.up MO.out hih hhj (by show (!_)=true;rw[Q.out,decide_eq_false Om];rfl),CLS.out nq osq⟩
     ·have hltz:¬ (i:Int)<(j:Int):=Om;have he:j=i:=Om;subst he;obtain⟨q1,q2,q3,q4,q5⟩:=HQ.out;obtain⟨hmid,hn,hlo,hhi⟩:=HM.out;obtain⟨CUT,m1,m2,m3,m4⟩:=Rk HL.out hmid hn hlo hhi hi1 hj HA.out.1 HA.out.2.1 (λc h1 h2=>by simpa using q4 c h1 h2) (λc h1 h2=>by simpa using q5 c h1 h2);obtain⟨e,he⟩:∃ e,n-j=e:=⟨_,rfl⟩;rw[he]at CUT m1;have hez:(n:Int)-j=e:=Om;have g1:=CUT.h1;have g2:=CUT.h2;have g3:=CUT.h3;have g4:=CUT.h4;have CUT:=Hd CUT;have HE:=Hd m1;have g5:j+e=mid+m:=Om;clear q1 q2 q3 q4 q5 hmid hn hlo hhi m1;go_upto_region 38 with fail
      go_cut [24] from 175 to 177 (λv wx=>v=.int .i64 e/\wx=wr)
      case first =>
       go_wp2_with fail
       go_meet
       case rel=>exact⟨rfl,rfl⟩
      obtain⟨rfl,rfl⟩:=hcut;go_step;refine wp_seq_k λK hK=>?_
      go_cut [] from 178 to 191 (λwx=>∃ d1:Array α,Hid (Vj dk j m e d1)/\Hid (SWK enc k w0 blk off d1 wx))
      case first =>
       by_cases k1:j<m
       ·by_cases k2:m<e
        ·have C1:=HR.out.1 wc j m e _ _ _ dk rfl rfl rfl k1 k2 Om HS.out HWr.out;have k1z:(j:Int)<m:=Om;have k2z:(m:Int)<e:=Om;go_wp2_with (go_at_call 280;refine C1.mono ?_;rintro e W1 ⟨rfl,d',h1,h2⟩;clear C1)
         go_meet
         case rel=>exact⟨d',h1,h2⟩
        ·have k1z:(j:Int)<m:=Om;have k2z:¬ (m:Int)<e:=Om;go_wp2_with fail
         go_meet
         case rel=>exact⟨dk,Rs dk (.inr Om),HWr.out⟩
       ·have k1z:¬ (j:Int)<m:=Om;go_wp2_with fail
        go_meet
        case rel=>exact⟨dk,Rs dk (.inl Om),HWr.out⟩
      case rest =>
       obtain⟨d1,HT,HW1⟩:=hcut;obtain⟨s1,s2,s3,s4⟩:=CUT.out.sorts HT.out;obtain⟨t1,t2⟩:=CUT.out.tags HT.out HA.out.2.2;rw[<- HE.out]at s2 s3 t1 t2;have hs1:d1.size=dk.size:=HT.out.1;have S1:Aside _:=Ai1 (Ai1 s1 (Ai1 s2 (Ai1 s3 s4))) (Ai1 (Ai1 t1 t2) hs1);clear s1 s2 s3 s4 t1 t2 hs1;go_step;refine wp_seq_k λK hK=>?_
       go_cut [] from 192 to 205 (λwx=>∃ d2:Array α,Hid (Mg (Yx (ltOf cf) tag) d1 a mid d2)/\Hid (SWK enc k w0 blk off d2 wx))
       case first =>
        by_cases k1:a<j
        ·by_cases k2:j<mid
         ·have C1:=HR.out.2 wc a j mid _ _ _ d1 rfl rfl rfl Om k1 k2 (by have:=S1.out.2.2;omega) (S1.out.2.2.trans HS.out) HW1.out S1.out.1.1 S1.out.1.2.1 S1.out.2.1.1;have k1z:(a:Int)<j:=Om;have k2z:(j:Int)<mid:=Om;go_wp2_with (go_at_call 263;refine C1.mono ?_;rintro e W1 ⟨rfl,d',h1,h2⟩;clear C1)
          go_meet
          case rel=>exact⟨d',h1,h2⟩
         ·have k1z:(a:Int)<j:=Om;have k2z:¬ (j:Int)<mid:=Om;have e1:j=mid:=Om;have M:=Hd (Vk (show SortedIn (Yx (ltOf cf) tag) a mid d1 by rw[<- e1];exact S1.out.1.1));clear e1;go_wp2_with fail
          go_meet
          case rel=>exact⟨d1,M,HW1.out⟩
        ·have k1z:¬ (a:Int)<j:=Om;have e1:a=j:=Om;have M:=Hd (Vk (show SortedIn (Yx (ltOf cf) tag) a mid d1 by rw[e1];exact S1.out.1.2.1));clear e1;go_wp2_with fail
         go_meet
         case rel=>exact⟨d1,M,HW1.out⟩
       case rest =>
        obtain⟨d2,HM2,HW2⟩:=hcut;have P2:Aside _:=HM2.out.1;have hs2:Hid (d2.size=dk.size):=P2.out.1.trans S1.out.2.2
        have b3:Aside (SortedIn (Yx (ltOf cf) tag) mid e d2/\SortedIn (Yx (ltOf cf) tag) e b d2/\∀ i j,mid<=i->i<e->e<=j->j<b->tag d2[i]! < tag d2[j]!) :=
         ⟨Ue S1.out.1.2.2.1 P2.out (Nl _),Ue S1.out.1.2.2.2 P2.out Om,λx y h1 h2 h3 h4=>by rw[P2.out.2.1 x Om,P2.out.2.1 y Om];exact S1.out.2.1.2 x y h1 h2 h3 h4⟩
        have FIN:∀ d3 w3,Mg (Yx (ltOf cf) tag) d2 mid b d3->SWK enc k w0 blk off d3 w3->∃ d',Mg (Yx (ltOf cf) tag) dk a b d'/\SWK enc k w0 blk off d' w3:=λd3 w3 h1 h2=>⟨d3,Zcg HL.out CUT.out HE.out HT.out hb HM2.out h1,h2⟩
        have FIN:Hid _:=FIN;go_step;refine wp_seq_k λK hK=>?_
        by_cases k1:mid<e
        ·by_cases k2:e<b
         ·have C1:=HR.out.2 wc mid e b _ _ _ d2 rfl rfl rfl Om k1 k2 (by have:=hs2.out;omega) (hs2.out.trans HS.out) HW2.out b3.out.1 b3.out.2.1 b3.out.2.2;have k1z:(mid:Int)<e:=Om;have k2z:(e:Int)<b:=Om;go_wp2_with (go_at_call 263;refine C1.mono ?_;rintro e W1 ⟨rfl,d',h1,h2⟩;clear C1)
          go_end0
          exact⟨rfl,FIN.out d' _ h1 h2⟩
         ·have k1z:(mid:Int)<e:=Om;have k2z:¬ (e:Int)<b:=Om;have e1:e=b:=Om;have M:=Hd (Vk (show SortedIn (Yx (ltOf cf) tag) mid b d2 by rw[<- e1];exact b3.out.1));clear e1;go_wp2_with fail
          go_end0
          exact⟨rfl,FIN.out d2 _ M HW2.out⟩
        ·have k1z:¬ (mid:Int)<e:=Om;have e1:e=mid:=Om;have M:=Hd (Vk (show SortedIn (Yx (ltOf cf) tag) mid b d2 by rw[<- e1];exact b3.out.2.1));clear e1;go_wp2_with fail
         go_end0
         exact⟨rfl,FIN.out d2 _ M HW2.out⟩
end Go.Proofs.YtlfoalomaofejaaGreatDoor
