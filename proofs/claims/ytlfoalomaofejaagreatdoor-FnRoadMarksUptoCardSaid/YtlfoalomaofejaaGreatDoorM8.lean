/- The symmetric merge (slices.sy -/
import Derived.Test.YtlfoalomaofejaaGreatDoorM5
import Derived.Deep.CutRange
import Derived.Deep.CutBlock
set_option linter.all false
set_option maxRecDepth 100000
set_option maxHeartbeats 4000000
namespace Go.Proofs.YtlfoalomaofejaaGreatDoor
open Go.Shelf Go.RowKit Go.Lib Go.Sort SS
def M5{α:Type}[Inhabited α](P:Program)(enc:α->List Value)(k:Nat)(q:World)(blk off cap sz g:Nat)(K:Array Value)(J:Array α)(L:α->α->Bool)(tag:α->Nat)(N:Nat):Prop :=
 ∀ (W:World) (a m b:Nat) (I z G:Int) (h:Array α),I=a->z=m->G=b->b-a<N->a<m->m<b->b<=h.size->h.size=J.size->SWK enc k q blk off h W->SortedIn L a m h->SortedIn L m b h->(∀ i j,a<=i->i<m->m<=j->j<b->tag h[i]! < tag h[j]!) ->
  Calls P 169 #[.slice (some ⟨blk,off,none⟩) sz cap,.int .i64 I,.int .i64 z,.int .i64 G,.func (.func g) #[] K] W λe w'=>e=.returned (.tuple #[])/\∃ A,Mg L h a b A/\SWK enc k q blk off A w'
def Zn4{α:Type}[Inhabited α](P:Program)(enc:α->List Value)(k:Nat)(q:World)(blk off cap sz:Nat)(v:Value)(J:Array α):Prop :=
 ∀ (W:World) (a m b:Nat) (I z G:Int) (h:Array α),I=a->z=m->G=b->a<m->m<b->b<=h.size->h.size=J.size->SWK enc k q blk off h W ->
  Calls P 203 #[.slice (some ⟨blk,off,none⟩) sz cap,.int .i64 I,.int .i64 z,.int .i64 G,v] W λe w'=>e=.returned (.tuple #[])/\∃ A,Vo h a m b A/\SWK enc k q blk off A w'
theorem Al{P:Program}{k:Nat}(L:SPu P k)(F:P.funcs[169]?=some Tryz.f169)(ec:∀ args w,(callFunc 169 args).run P w=.ok (.enter 169 args) w)(er:∀ args w,(callFunc 203 args).run P w=.ok (.enter 203 args) w)
  {α:Type} [Inhabited α] (enc:α->List Value) (w0:World) (blk off cap g:Nat) (cb:Array Value) (I:α->α->Int) (tag:α->Nat) (d0:Array α) (R:RowK enc k w0 blk off d0)
  (eg:∀ args w,(callFunc g args).run P w=.ok (.enter g args) w) (au:CmpLays P g cb enc k I blk off d0.size w0) (hS:SWO (ltOf I)) (bo:d0.size<4611686018427387904) (aq:Zn4 P enc k w0 blk off cap d0.size (.func (.func g) #[] cb) d0)
  (N:Nat) (ar:M5 P enc k w0 blk off cap d0.size g cb d0 (Y3 (ltOf I) tag) tag N):M5 P enc k w0 blk off cap d0.size g cb d0 (Y3 (ltOf I) tag) tag (N+1):=by
 rintro W a m b _ _ _ z rfl rfl rfl hN bv bt hb hs hW hA hB ht;have mixed:=L.mixed;have t0:=L.t0;have a0:=L.a0;have z0:=L.z0;have v0:=L.v0;have t3:=L.t3;have a3:=L.a3;have z3:=L.z3;have v3:=L.v3;have t4:=L.t4;have a4:=L.a4;have z4:=L.z4;have v4:=L.v4;have t246:=L.t246;have a246:=L.a246;have z246:=L.z246;have v246:=L.v246;have tS:=L.tS;have aS:=L.aS;have zS:=L.zS;have vS:=L.vS;have tF:=L.tF;have aF:=L.aF;have zF:=L.zF;have vF:=L.vF;have aE:=L.aE;have zE:=L.zE;have uS:=run_underlying L.tS;have hL:=Mf (tag:=tag) hS;have bq:z.size<4611686018427387904:=Om
 have RR:Aside _:=R;have HW:Aside _:=hW;have HC:Aside _:=au;have HL:Aside _:=hL;have HR:Aside _:=Ai1 aq ar;have HA:Aside _:=Ai1 hA (Ai1 hB ht);have HS:=Hd hs;clear R hW hs au hL hS aq ar hA hB ht L;by_cases c1:m-a=1
 ·have bf:(m:Int)-a=1:=Om
  go_enter F,Tryz.ntmps169
  go_wp2
  go_loopg [10,11] (b-m) (λg1 vi vj wr=>∃ (i j:Nat),vi=.int .i64 i/\vj=.int .i64 j/\m<=i/\i<=j/\j<=b/\j-i<=g1/\Hid (Uz (λc=>Y3 (ltOf I) tag z[c]! z[a]!) m b i j)/\Hid (SWK enc k w0 blk off z wr))
  case atStart=>exact⟨m,b,rfl,rfl,Nl _,Om,Nl _,Om,Uz.start _ Om,HW.out⟩
  case round =>
   obtain⟨i,j,rfl,rfl,hi,a8,hj,hg,HQ,G⟩:=hrel;by_cases a7:i<j
   ·have ab:(i:Int)<(j:Int):=Om;have srt:∀ x y,x<z.size->y<z.size->tag z[y]! < tag z[x]! -> Y3 (ltOf I) tag z[x]! z[y]! = decide (I z[x]! z[y]! < 0):=λx y _ _ ht=>Wc ht
    go_wp2_with fail
    obtain⟨h,hh⟩:∃ h:Nat,((i:Int)+j) / 2=h:=⟨(i+j) / 2,Om⟩;rw[hh];have ae:i<=h:=Om;have aj:h<j:=Om;have x1:h<z.size:=Om;have x2:a<z.size:=Om;have z1:(h:Int)<d0.size:=by have:=HS.out;omega
    have z2:(a:Int)<d0.size:=by have:=HS.out;omega
    obtain⟨vx,ad⟩:∃ x,z[h]! = x:=⟨_,rfl⟩;obtain⟨vy,ac⟩:∃ x,z[a]! = x:=⟨_,rfl⟩;have lx:=G.out.ld RR.out HS.out P h x1;have ly:=G.out.ld RR.out HS.out P a x2;have ak:∀ n os,_:=λn os=>G.out.cmp HC.out HS.out vx vy n os
    have X:∀ n os,Hid (SWK enc k w0 blk off z (grow (wr.drewN n) os)):=λn os=>G.out.grown n os
    have X:Hid _:=X
    have Q:Hid (Y3 (ltOf I) tag z[h]! z[a]! = decide (I vx vy<0)):=by
     rw[<- ad,<- ac];exact srt h a x1 x2 (HA.out.2.2 a h (Nl _) Om Om Om)
    have MO:Hid (M2 (λc=>Y3 (ltOf I) tag z[c]! z[a]!) m b):=Zc5 HL.out HA.out.2.1;rw[ad]at lx;rw[ac]at ly;clear srt hh ab ad ac;by_cases ao:I vx vy<0
    ·go_quiet_grown (first|(go_at_fn g;refine Calls.grown_of (ak _ _)))
     go_wp2
     go_roundg (j-(h+1))
     case measure=>omega
     case rel=>exact⟨h+1,j,by go_num,rfl,Om,Om,hj,Om,HQ.out.up MO.out ae aj (Q.out.trans (decide_eq_true ao)),X.out nq osq⟩
    ·go_quiet_grown (first|(go_at_fn g;refine Calls.grown_of (ak _ _)))
     go_wp2
     go_roundg (h-i)
     case measure=>omega
     case rel=>exact⟨i,h,rfl,by go_num,hi,ae,Om,Om,HQ.out.down MO.out ae aj (Q.out.trans (decide_eq_false Om)),X.out nq osq⟩
   ·have ab:¬ (i:Int)<(j:Int):=Om;have he:j=i:=Om;subst he
    go_wp2
    go_loopg [13] (j-1-a) (λg1 vk wr=>∃ (c:Nat) (Z:Array α),vk=.int .i64 c/\a<=c/\c+1<=j/\j-1-c<=g1/\Hid (Vo z a (a+1) (c+1) Z)/\Hid (SWK enc k w0 blk off Z wr))
    case atStart=>exact⟨a,z,rfl,Nl _,Om,Om,J3 z a,G.out⟩
    case round =>
     obtain⟨c,Z,rfl,bd,bc,bi,HT,aa⟩:=hrel;by_cases a6:c<j-1
     ·have al:(c:Int)<(j:Int)-1:=Om;have Y:Z.size=d0.size:=HT.out.1.trans HS;have x1:c<Z.size:=by have:=HS.out;omega
      have x2:c+1<Z.size:=by have:=HS.out;omega
      obtain⟨ex,ah⟩:∃ q,enc Z[c]! = q:=⟨_,rfl⟩;obtain⟨ey,ag⟩:∃ q,enc Z[c+1]! = q:=⟨_,rfl⟩;have l1:=aa.out.ld1 RR.out Y P (c+1) x2;have l2:=aa.out.ld1 RR.out Y P c x1;have s1:=aa.out.st1 RR.out Y P c x1 Z[c+1]!;have s2:=aa.out.st2 RR.out Y P c (c+1) x1 x2 Z[c+1]! Z[c]!;have HN:=Hd (aa.out.swapped RR.out c (c+1) x1 x2);have y1:ex.length=k:=by rw[<- ah];exact RR.out.hk _
      have y2:ey.length=k:=by rw[<- ag];exact RR.out.hk _
      rw[ah]at l2 s2;rw[ag]at l1 s1 s2;have CC:=Hd (Ai1 ah ag);have z1:(c:Int)<d0.size:=Om;have z2:(c:Int)+1<d0.size:=Om;have SZ:=Hd Y;clear ah ag Y;go_wp2_with fail
      go_big_region_o
      all_goals go_wp2
      go_roundg (j-1-(c+1))
      case measure=>omega
      case rel=>exact⟨c+1,swp Z c (c+1),by go_num,Om,Om,Om,J4 HT.out bd (by have:=SZ.out;have:=HS.out;omega),by rw[CC.1,CC.2]at HN;exact HN⟩
     ·have al:¬ (c:Int)<(j:Int)-1:=Om
      go_wp2
      have e:c+1=j:=Om;subst e;obtain⟨q1,q2,q3,q4,q5⟩:=HQ.out;exact bodyPost_ret (results_none rfl _ _ _) rfl ⟨rfl,Z,Zc8 HL.out HT.out Om hj hb (by have:=HA.out.2.1;rwa[(Om:m=a+1)]at this) (λx h1 h2=>q4 x Om h2) (λx h1 h2=>q5 x h1 h2),aa.out⟩
 ·have bf:¬ (m:Int)-a=1:=Om
  have bx:(((m:Int)-a)==1)=false:=by simpa using bf
  by_cases c2:b-m=1
  ·have be:(b:Int)-m=1:=Om;go_enter F,Tryz.ntmps169
   go_wp2
   go_loopg [14,15] (m-a) (λg1 vi vj wr=>∃ (i j:Nat),vi=.int .i64 i/\vj=.int .i64 j/\a<=i/\i<=j/\j<=m/\j-i<=g1/\Hid (Uz (λc=>!Y3 (ltOf I) tag z[m]! z[c]!) a m i j)/\Hid (SWK enc k w0 blk off z wr))
   case atStart=>exact⟨a,m,rfl,rfl,Nl _,Om,Nl _,Om,Uz.start _ Om,HW.out⟩
   case round =>
    obtain⟨i,j,rfl,rfl,hi,a8,hj,hg,HQ,G⟩:=hrel;by_cases a7:i<j
    ·have ab:(i:Int)<(j:Int):=Om;have srt:∀ x y,x<z.size->y<z.size->tag z[y]! < tag z[x]! -> Y3 (ltOf I) tag z[x]! z[y]! = decide (I z[x]! z[y]! < 0):=λx y _ _ ht=>Wc ht
     go_wp2_with fail
     obtain⟨h,hh⟩:∃ h:Nat,((i:Int)+j) / 2=h:=⟨(i+j) / 2,Om⟩;rw[hh];have ae:i<=h:=Om;have aj:h<j:=Om;have x1:h<z.size:=Om;have x2:m<z.size:=Om;have z1:(h:Int)<d0.size:=by have:=HS.out;omega
     have z2:(m:Int)<d0.size:=by have:=HS.out;omega
     obtain⟨vx,ad⟩:∃ x,z[h]! = x:=⟨_,rfl⟩;obtain⟨vy,ac⟩:∃ x,z[m]! = x:=⟨_,rfl⟩;have lx:=G.out.ld RR.out HS.out P h x1;have ly:=G.out.ld RR.out HS.out P m x2;have ak:∀ n os,_:=λn os=>G.out.cmp HC.out HS.out vy vx n os
     have X:∀ n os,Hid (SWK enc k w0 blk off z (grow (wr.drewN n) os)):=λn os=>G.out.grown n os
     have X:Hid _:=X
     have Q:Hid (Y3 (ltOf I) tag z[m]! z[h]! = decide (I vy vx<0)):=by
      rw[<- ad,<- ac];exact srt m h x2 x1 (HA.out.2.2 h m Om Om (Nl _) Om)
     have MO:Hid (M2 (λc=>!Y3 (ltOf I) tag z[m]! z[c]!) a m):=Zc4 HL.out HA.out.1;rw[ad]at lx;rw[ac]at ly;clear srt hh ab ad ac;by_cases ao:I vy vx<0
     ·go_quiet_grown (first|(go_at_fn g;refine Calls.grown_of (ak _ _)))
      go_wp2
      go_roundg (h-i)
      case measure=>omega
      case rel=>exact⟨i,h,rfl,by go_num,hi,ae,Om,Om,HQ.out.down MO.out ae aj (by show (!_)=false;rw[Q.out,decide_eq_true ao];rfl),X.out nq osq⟩
     ·go_quiet_grown (first|(go_at_fn g;refine Calls.grown_of (ak _ _)))
      go_wp2
      go_roundg (j-(h+1))
      case measure=>omega
      case rel=>exact⟨h+1,j,by go_num,rfl,Om,Om,hj,Om,HQ.out.up MO.out ae aj (by show (!_)=true;rw[Q.out,decide_eq_false Om];rfl),X.out nq osq⟩
    ·have ab:¬ (i:Int)<(j:Int):=Om;have he:j=i:=Om;subst he
     go_wp2
     go_loopg [17] (m-j) (λg1 vk wr=>∃ (c:Nat) (Z:Array α),vk=.int .i64 c/\j<=c/\c<=m/\c-j<=g1/\Hid (Vo z c m (m+1) Z)/\Hid (SWK enc k w0 blk off Z wr))
     case atStart=>exact⟨m,z,rfl,Om,Nl _,Om,J5 z m,G.out⟩
     case round =>
      obtain⟨c,Z,rfl,bd,bc,bi,HT,aa⟩:=hrel;by_cases a6:j<c
      ·have al:(j:Int)<(c:Int):=Om;obtain⟨c,rfl⟩:∃ q,c=q+1:=⟨c-1,Om⟩;have Y:Z.size=d0.size:=HT.out.1.trans HS;have x1:c<Z.size:=by have:=HS.out;omega
       have x2:c+1<Z.size:=by have:=HS.out;omega
       obtain⟨ex,ah⟩:∃ q,enc Z[c]! = q:=⟨_,rfl⟩;obtain⟨ey,ag⟩:∃ q,enc Z[c+1]! = q:=⟨_,rfl⟩;have l1:=aa.out.ld1 RR.out Y P (c+1) x2;have l2:=aa.out.ld1 RR.out Y P c x1;have s1:=aa.out.st1 RR.out Y P (c+1) x2 Z[c]!;have s2:=aa.out.st2 RR.out Y P (c+1) c x2 x1 Z[c]! Z[c+1]!;have HN:=Hd (aa.out.swapped RR.out (c+1) c x2 x1);have y1:ex.length=k:=by rw[<- ah];exact RR.out.hk _
       have y2:ey.length=k:=by rw[<- ag];exact RR.out.hk _
       rw[ah]at l2 s1 s2;rw[ag]at l1 s2;have CC:=Hd (Ai1 ah ag);have z1:(c:Int)<d0.size:=Om;have z2:(c:Int)+1<d0.size:=Om;have z3:(0:Int)<=(c:Int)+1:=Om;have z4:((c:Int)+1).toNat=c+1:=Om;have SZ:=Hd Y;clear ah ag Y;go_wp2_with fail
       go_big_region_o
       all_goals go_wp2
       go_roundg (c-j)
       case measure=>omega
       case rel=>exact⟨c,swp Z (c+1) c,by go_num,Om,Om,Om,J6 HT.out bc (by have:=HS.out;omega),by rw[CC.1,CC.2]at HN;exact HN⟩
      ·have al:¬ (j:Int)<(c:Int):=Om
       go_wp2
       have e:c=j:=Om;subst e;obtain⟨q1,q2,q3,q4,q5⟩:=HQ.out;have bk:m+1=b:=Om;refine bodyPost_ret (results_none rfl _ _ _) rfl ⟨rfl,Z,?_,aa.out⟩;rw[<- bk];exact Zc7 HL.out HT.out Om hj Om HA.out.1 (λx h1 h2=>by simpa using q4 x h1 h2) (λx h1 h2=>by simpa using q5 x h1 h2)
  ·have be:¬ (b:Int)-m=1:=Om;have bw:(((b:Int)-m)==1)=false:=(by simpa using be);obtain⟨A,U⟩:∃ q,q=(a+b) / 2:=⟨_,rfl⟩;obtain⟨n,hn⟩:∃ q,q=A+m:=⟨_,rfl⟩;obtain⟨lo,J⟩:∃ q,q=if m > A then n-b else a:=⟨_,rfl⟩
   obtain⟨hi,V⟩:∃ q,q=if m > A then A else m:=⟨_,rfl⟩
   have a1:((a:Int)+b) / 2=A:=Om;have az:(A:Int)+m=n:=Om;have f1:a<=lo:=by split at J<;>omega
   have f2:hi<=m:=by split at V<;>omega
   have f4:n-lo<=b:=by split at J<;>omega
   have f5:lo<=hi:=by split at J<;>split at V<;>omega
   have f6:lo<=n:=by split at J<;>omega
   have f7:∀ c,lo<=c->c<hi->m<=n-1-c/\c<n:=λc _ _=>by split at V<;>omega
   have HM:Hid (A=(a+b) / 2/\n=A+m/\lo=(if m > A then n-b else a)/\hi=(if m > A then A else m)):=⟨U,hn,J,V⟩;have F7:Aside _:=f7;have bm:a<A:=Om;have bl:A<b:=Om;have bg:=Hd (Ai1 a1 az);clear f7 U hn J V a1 az;go_enter F,Tryz.ntmps169
   go_upto_region 25 with fail
   rw[bg.1]
   go_upto_if 140 with fail
   rw[bg.2];obtain⟨U,hn,J,V⟩:=HM.out
   go_cut [20,21] from 138 to 146 (λx y wx=>x=.int .i64 lo/\y=.int .i64 hi/\wx=W)
   case first =>
    by_cases hc:A<m
    ·have bj:(A:Int)<m:=Om;rw[if_pos hc]at J V;subst V;have e1:(n:Int)-b=lo:=Om;clear J U hn;go_wp2_with fail
     go_meet
     case rel=>exact⟨by first|rfl|rw[e1],rfl,rfl⟩
    ·have bj:¬ (A:Int)<m:=Om;rw[if_neg hc]at J V;subst J V;clear U hn;go_wp2_with fail
     go_meet
     case rel=>exact⟨rfl,rfl,rfl⟩
   case rest =>
    obtain⟨rfl,rfl,rfl⟩:=hcut;clear U hn J V;go_step;go_wp2_with fail
    go_loopg [20,21] (hi-lo) (λg1 vi vj wr=>∃ (i j:Nat),vi=.int .i64 i/\vj=.int .i64 j/\lo<=i/\i<=j/\j<=hi/\j-i<=g1/\Hid (Uz (λc=>!Y3 (ltOf I) tag z[n-1-c]! z[c]!) lo hi i j)/\Hid (SWK enc k w0 blk off z wr))
    case atStart=>exact⟨lo,hi,rfl,rfl,Nl _,Om,Nl _,Om,Uz.start _ Om,HW.out⟩
    case round =>
     obtain⟨i,j,rfl,rfl,bb,a8,hj,hg,HQ,G⟩:=hrel;by_cases a7:i<j
     ·have ab:(i:Int)<(j:Int):=Om;have srt:∀ x y,x<z.size->y<z.size->tag z[y]! < tag z[x]! -> Y3 (ltOf I) tag z[x]! z[y]! = decide (I z[x]! z[y]! < 0):=λx y _ _ ht=>Wc ht
      go_wp2_with fail
      obtain⟨h,hh⟩:∃ h:Nat,((i:Int)+j) / 2=h:=⟨(i+j) / 2,Om⟩;rw[hh];have ae:i<=h:=Om;have aj:h<j:=Om;have f8:=F7.out h Om Om;obtain⟨p,hp⟩:∃ p,n-1-h=p:=⟨_,rfl⟩;have bs:(n:Int)-1-h=p:=Om;have bn:IntKind.i64.wrap (p:Int)=(p:Int):=by rw[IntKind.wrap_i64];omega
      have x1:h<z.size:=Om;have x2:p<z.size:=Om;have z1:(h:Int)<d0.size:=by have:=HS.out;omega
      have z2:(p:Int)<d0.size:=by have:=HS.out;omega
      obtain⟨vx,ad⟩:∃ x,z[h]! = x:=⟨_,rfl⟩;obtain⟨vy,ac⟩:∃ x,z[p]! = x:=⟨_,rfl⟩;have lx:=G.out.ld RR.out HS.out P h x1;have ly:=G.out.ld RR.out HS.out P p x2;have ak:∀ n os,_:=λn os=>G.out.cmp HC.out HS.out vy vx n os
      have X:∀ n os,Hid (SWK enc k w0 blk off z (grow (wr.drewN n) os)):=λn os=>G.out.grown n os
      have X:Hid _:=X
      have Q:Hid (Y3 (ltOf I) tag z[n-1-h]! z[h]! = decide (I vy vx<0)):=by
       rw[hp,<- ad,<- ac];exact srt p h x2 x1 (HA.out.2.2 h p Om Om Om Om)
      have MO:Hid (M2 (λc=>!Y3 (ltOf I) tag z[n-1-c]! z[c]!) lo hi):=Zc3 HL.out HA.out.1 HA.out.2.1 f1 f2 Om F7.out;rw[ad]at lx;rw[ac]at ly;clear srt hh ab ad ac hp f8;by_cases ao:I vy vx<0
      ·go_quiet_grown (first|(go_at_fn g;refine Calls.grown_of (ak _ _)))
       go_wp2
       go_roundg (h-i)
       case measure=>omega
       case rel=>exact⟨i,h,rfl,by go_num,bb,ae,Om,Om,HQ.out.down MO.out ae aj (by show (!_)=false;rw[Q.out,decide_eq_true ao];rfl),X.out nq osq⟩
      ·go_quiet_grown (first|(go_at_fn g;refine Calls.grown_of (ak _ _)))
       go_wp2
       go_roundg (j-(h+1))
       case measure=>omega
       case rel=>exact⟨h+1,j,by go_num,rfl,Om,Om,hj,Om,HQ.out.up MO.out ae aj (by show (!_)=true;rw[Q.out,decide_eq_false Om];rfl),X.out nq osq⟩
     ·have ab:¬ (i:Int)<(j:Int):=Om;have he:j=i:=Om;subst he;obtain⟨q1,q2,q3,q4,q5⟩:=HQ.out;obtain⟨U,hn,J,V⟩:=HM.out;obtain⟨af,m1,m2,m3,m4⟩:=Sd HL.out U hn J V bb hj HA.out.1 HA.out.2.1 (λc h1 h2=>by simpa using q4 c h1 h2) (λc h1 h2=>by simpa using q5 c h1 h2);obtain⟨e,he⟩:∃ e,n-j=e:=⟨_,rfl⟩;rw[he]at af m1;have bu:(n:Int)-j=e:=Om;have g1:=af.h1;have g2:=af.h2;have g3:=af.h3;have g4:=af.h4;have af:=Hd af;have HE:=Hd m1;have g5:j+e=A+m:=Om;clear q1 q2 q3 q4 q5 U hn J V m1;go_upto_region 38 with fail
      go_cut [24] from 175 to 177 (λv wx=>v=.int .i64 e/\wx=wr)
      case first =>
       go_wp2_with fail
       go_meet
       case rel=>exact⟨rfl,rfl⟩
      obtain⟨rfl,rfl⟩:=hcut;go_step;refine wp_seq_k λK hK=>?_
      go_cut [] from 178 to 191 (λwx=>∃ d1:Array α,Hid (Vo z j m e d1)/\Hid (SWK enc k w0 blk off d1 wx))
      case first =>
       by_cases k1:j<m
       ·by_cases k2:m<e
        ·have C1:=HR.out.1 wc j m e _ _ _ z rfl rfl rfl k1 k2 Om HS.out G.out;have ai:(j:Int)<m:=Om;have am:(m:Int)<e:=Om;go_wp2_with (go_at_call 203;refine C1.mono ?_;rintro e W1 ⟨rfl,d',h1,h2⟩;clear C1)
         go_meet
         case rel=>exact⟨d',h1,h2⟩
        ·have ai:(j:Int)<m:=Om;have am:¬ (m:Int)<e:=Om;go_wp2_with fail
         go_meet
         case rel=>exact⟨z,Sk z (.inr Om),G.out⟩
       ·have ai:¬ (j:Int)<m:=Om;go_wp2_with fail
        go_meet
        case rel=>exact⟨z,Sk z (.inl Om),G.out⟩
      case rest =>
       obtain⟨d1,HT,aw⟩:=hcut;obtain⟨s1,s2,s3,s4⟩:=af.out.sorts HT.out;obtain⟨t1,t2⟩:=af.out.tags HT.out HA.out.2.2;rw[<- HE.out]at s2 s3 t1 t2;have ay:d1.size=z.size:=HT.out.1;have S1:Aside _:=Ai1 (Ai1 s1 (Ai1 s2 (Ai1 s3 s4))) (Ai1 (Ai1 t1 t2) ay);clear s1 s2 s3 s4 t1 t2 ay;go_step;refine wp_seq_k λK hK=>?_
       go_cut [] from 192 to 205 (λwx=>∃ d2:Array α,Hid (Mg (Y3 (ltOf I) tag) d1 a A d2)/\Hid (SWK enc k w0 blk off d2 wx))
       case first =>
        by_cases k1:a<j
        ·by_cases k2:j<A
         ·have C1:=HR.out.2 wc a j A _ _ _ d1 rfl rfl rfl Om k1 k2 (by have:=S1.out.2.2;omega) (S1.out.2.2.trans HS.out) aw.out S1.out.1.1 S1.out.1.2.1 S1.out.2.1.1;have ai:(a:Int)<j:=Om;have am:(j:Int)<A:=Om;go_wp2_with (go_at_call 169;refine C1.mono ?_;rintro e W1 ⟨rfl,d',h1,h2⟩;clear C1)
          go_meet
          case rel=>exact⟨d',h1,h2⟩
         ·have ai:(a:Int)<j:=Om;have am:¬ (j:Int)<A:=Om;have e1:j=A:=Om;have M:=Hd (Vp (show SortedIn (Y3 (ltOf I) tag) a A d1 by rw[<- e1];exact S1.out.1.1));clear e1;go_wp2_with fail
          go_meet
          case rel=>exact⟨d1,M,aw.out⟩
        ·have ai:¬ (a:Int)<j:=Om;have e1:a=j:=Om;have M:=Hd (Vp (show SortedIn (Y3 (ltOf I) tag) a A d1 by rw[e1];exact S1.out.1.2.1));clear e1;go_wp2_with fail
         go_meet
         case rel=>exact⟨d1,M,aw.out⟩
       case rest =>
        obtain⟨d2,bh,av⟩:=hcut;have P2:Aside _:=bh.out.1;have ax:Hid (d2.size=z.size):=P2.out.1.trans S1.out.2.2
        have b3:Aside (SortedIn (Y3 (ltOf I) tag) A e d2/\SortedIn (Y3 (ltOf I) tag) e b d2/\∀ i j,A<=i->i<e->e<=j->j<b->tag d2[i]! < tag d2[j]!) :=
         ⟨Un S1.out.1.2.2.1 P2.out (Nl _),Un S1.out.1.2.2.2 P2.out Om,λx y h1 h2 h3 h4=>by rw[P2.out.2.1 x Om,P2.out.2.1 y Om];exact S1.out.2.1.2 x y h1 h2 h3 h4⟩
        have ap:∀ d3 w3,Mg (Y3 (ltOf I) tag) d2 A b d3->SWK enc k w0 blk off d3 w3->∃ d',Mg (Y3 (ltOf I) tag) z a b d'/\SWK enc k w0 blk off d' w3:=λd3 w3 h1 h2=>⟨d3,Zc6 HL.out af.out HE.out HT.out hb bh.out h1,h2⟩
        have ap:Hid _:=ap;go_step;refine wp_seq_k λK hK=>?_
        by_cases k1:A<e
        ·by_cases k2:e<b
         ·have C1:=HR.out.2 wc A e b _ _ _ d2 rfl rfl rfl Om k1 k2 (by have:=ax.out;omega) (ax.out.trans HS.out) av.out b3.out.1 b3.out.2.1 b3.out.2.2;have ai:(A:Int)<e:=Om;have am:(e:Int)<b:=Om;go_wp2_with (go_at_call 169;refine C1.mono ?_;rintro e W1 ⟨rfl,d',h1,h2⟩;clear C1)
          go_end0
          exact⟨rfl,ap.out d' _ h1 h2⟩
         ·have ai:(A:Int)<e:=Om;have am:¬ (e:Int)<b:=Om;have e1:e=b:=Om;have M:=Hd (Vp (show SortedIn (Y3 (ltOf I) tag) A b d2 by rw[<- e1];exact b3.out.1));clear e1;go_wp2_with fail
          go_end0
          exact⟨rfl,ap.out d2 _ M av.out⟩
        ·have ai:¬ (A:Int)<e:=Om;have e1:e=A:=Om;have M:=Hd (Vp (show SortedIn (Y3 (ltOf I) tag) A b d2 by rw[<- e1];exact b3.out.2.1));clear e1;go_wp2_with fail
         go_end0
         exact⟨rfl,ap.out d2 _ M av.out⟩
end Go.Proofs.YtlfoalomaofejaaGreatDoor
