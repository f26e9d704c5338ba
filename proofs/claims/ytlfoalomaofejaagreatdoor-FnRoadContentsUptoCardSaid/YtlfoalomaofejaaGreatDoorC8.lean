/- The stable sort (slices.stable -/
import Derived.Test.YtlfoalomaofejaaGreatDoorC7
set_option linter.all false
set_option maxRecDepth 100000
set_option maxHeartbeats 4000000
namespace Go.Proofs.YtlfoalomaofejaaGreatDoor
section
open Go.Shelf Go.RowKit Go.Lib Go.Sort SS
theorem Zbb{P:Program}{α:Type}[Inhabited α]{enc:α->List Value}{k:Nat}{w0 W:World}{blk off g size:Nat}{cb:Array Value}{cf:α->α->Int}{dk:Array α}(hC:CmpLays P g cb enc k cf blk off size w0)(h:SWK enc k w0 blk off dk W)(hblk:blk<w0.heap.size)(hs:dk.size=size):CmpLays P g cb enc k cf blk off size W:=by
 intro m os dj hj x y;obtain⟨n',os',e⟩:=h.on hblk m dj os (hj.trans hs.symm);rw[e];exact hC n' os' dj hj x y
def Zm3{α:Type}[Inhabited α](P:Program)(enc:α->List Value)(k:Nat)(w0:World)(blk off cap sz g:Nat)(cb:Array Value)(cf:α->α->Int)(d0:Array α):Prop :=
 ∀ (W:World) (a b:Nat) (ai bi:Int) (dk:Array α),ai=a->bi=b->a<=b->b<=dk.size->dk.size=d0.size->SWK enc k w0 blk off dk W ->
  Calls P 256 #[.slice (some ⟨blk,off,none⟩) sz cap,.int .i64 ai,.int .i64 bi,.func (.func g) #[] cb] W λe w'=>e=.returned (.tuple #[])/\SWK enc k w0 blk off (insertionSort (ltOf cf) dk a b) w'
theorem Zan{α:Type}[Inhabited α](enc:α->List Value)(w0:World)(blk off cap g:Nat)(cb:Array Value)(cf:α->α->Int)(d0:Array α)(R:RowK enc 6 w0 blk off d0)
  (eg:∀ args w,(callFunc g args).run Tryz.prog w=.ok (.enter g args) w) (hcmp:CmpLays Tryz.prog g cb enc 6 cf blk off d0.size w0) (hS:SWO (ltOf cf)) (hsz:d0.size<4611686018427387904) :
  Zm3 Tryz.prog enc 6 w0 blk off cap d0.size g cb cf d0:=by
 rintro W a b ai bi dk ha hb hab hbk hs h;subst ha hb;have:=AnyQ.insertionSortCmpFunc layInsw 6 (λw=>sp_w.aE w) (λw=>sp_w.zE w) enc R.hk R.h1 cf g cb blk off cap a b dk W eg (by rw[hs];exact Zbb hcmp h R.hblk hs) (h.holds R.hblk R.hH hs) (h.lt R.hblk) hab hbk Om;rw[hs]at this;refine Calls.mono this ?_;rintro e w' ⟨rfl,n,os,rfl⟩;exact⟨rfl,h.on R.hblk n _ os (insertionSort_holds hS dk a b hab hbk).1.1⟩
theorem Zdx{α:Type}[Inhabited α](enc:α->List Value)(w0:World)(blk off cap g:Nat)(cb:Array Value)(cf:α->α->Int)(tag:α->Nat)(d0:Array α)(R:RowK enc 6 w0 blk off d0)
  (eg:∀ args w,(callFunc g args).run Tryz.prog w=.ok (.enter g args) w) (hcmp:CmpLays Tryz.prog g cb enc 6 cf blk off d0.size w0) (hS:SWO (ltOf cf)) (hsz:d0.size<4611686018427387904) :
  ∀ N,Mm Tryz.prog enc 6 w0 blk off cap d0.size g cb d0 (Yx (ltOf cf) tag) tag N
 | 0=>by rintro W a m b _ _ _ dk rfl rfl rfl hN;omega
 | N+1=>Bj sp_w Tryz.func257 (λ_ _=>Kr) (λ_ _=>Kr) enc w0 blk off cap g cb cf tag d0 R eg hcmp hS hsz
   (by
     rintro W a m b _ _ _ dk rfl rfl rfl h1 h2 h3 h4 h5
     exact Zhl enc w0 W blk off cap a m b d0.size d0 dk R h4 h5 h4.symm h1 h2 h3 Om _) N (Zdx enc w0 blk off cap g cb cf tag d0 R eg hcmp hS hsz N)
theorem Zg9{α:Type}[Inhabited α](enc:α->List Value)(w0:World)(blk off cap g:Nat)(cb:Array Value)(cf:α->α->Int)(tag:α->Nat)(d0:Array α)(R:RowK enc 6 w0 blk off d0)
  (eg:∀ args w,(callFunc g args).run Tryz.prog w=.ok (.enter g args) w) (hcmp:CmpLays Tryz.prog g cb enc 6 cf blk off d0.size w0) (hS:SWO (ltOf cf)) (hsz:d0.size<1152921504606846976) (ht:∀ i,i<d0.size->tag d0[i]! = i) :
  Calls Tryz.prog 226 #[.slice (some ⟨blk,off,none⟩) d0.size cap,.int .i64 d0.size,.func (.func g) #[] cb] w0 λe w'=>e=.returned (.tuple #[])/\∃ d',d'.toList=Z6 (ltOf cf) d0.toList/\d'.size=d0.size/\SWK enc 6 w0 blk off d' w':=by
 have INS:=Zan enc w0 blk off cap g cb cf d0 R eg hcmp hS Om;have MRG:=λN=>Zdx enc w0 blk off cap g cb cf tag d0 R eg hcmp hS Om N
 have HS:Aside _:=hS;have H0:=Hd (SWK.start R.hH);obtain⟨n,hn⟩:∃ n,n=d0.size:=⟨_,rfl⟩;rw[<- hn]at hsz ht INS⊢;have MRG:Aside (∀ N,Mm Tryz.prog enc 6 w0 blk off cap n g cb d0 (Yx (ltOf cf) tag) tag N):=λN=>by rw[hn];exact MRG N
 have INS:Aside _:=INS;have HT:Aside _:=ht;have HN:=Hd hn;clear R hcmp hS ht eg hn;go_enter Tryz.func226,Tryz.ntmps226
 go_wp2_with fail
 go_loopg [7,8] n (λg1 va vb wr=>∃ (t A:Nat) (di:Array α),Hid (A=t*20)/\va=.int .i64 A/\vb=.int .i64 ((A:Int)+20)/\A<=n/\n<=A+g1/\Hid (Uv (Yx (ltOf cf) tag) tag n t d0 di)/\Hid (SWK enc 6 w0 blk off di wr))
 case atStart=>exact⟨0,0,d0,rfl,rfl,rfl,Om,Om,Uv.start,H0⟩
 case round =>
  obtain⟨t,A,di,HA,rfl,rfl,htn,hg,HF,HW⟩:=hrel;have hsd:Hid (di.size=d0.size):=HF.out.perm.1;by_cases hlt:A+20<=n
  ·have hltz:(A:Int)+20<=(n:Int):=Om;have C1:=INS.out wr A (A+20) A ((A:Int)+20) di rfl Om Om (by have:=hsd.out;have:=HN.out;omega) hsd.out HW.out;have M:=Hd (Wl (tag:=tag) HS.out di A (A+20) Om (by have:=hsd.out;have:=HN.out;omega) (by rw[HA.out];exact HF.out.tags HN HT.out (by have:=HA.out;omega)));go_wp2_with (go_at_call 256;refine C1.mono ?_;rintro e W1 ⟨rfl,h2⟩;clear C1)
   go_roundg (n-(A+20))
   case measure=>omega
   case rel=>exact⟨t+1,A+20,_,by have:=HA.out;show _=_;omega,by go_num,by go_num,Om,Om,HF.out.step HN HT.out (by have:=HA.out;omega) (by rw[<- HA.out];exact M),h2⟩
  ·have hltz:¬ (A:Int)+20<=(n:Int):=Om;have C1:=INS.out wr A n A n di rfl rfl Om (by have:=hsd.out;have:=HN.out;omega) hsd.out HW.out;have M:=Hd (Wl (tag:=tag) HS.out di A n Om (by have:=hsd.out;have:=HN.out;omega) (by rw[HA.out];exact HF.out.tags HN HT.out (Nl _)));have L0:Hid (Tl (Yx (ltOf cf) tag) tag n 20 d0 (insertionSort (ltOf cf) di A n)):=HF.out.close HN HT.out (by have:=HA.out;omega) (by have:=HA.out;omega) (by rw[<- HA.out];exact M);clear M;generalize insertionSort (ltOf cf) di A n=dz at C1 L0;go_wp2_with (go_at_call 256;refine C1.mono ?_;rintro e W1 ⟨rfl,h2⟩;clear C1;have H2:=Hd h2;clear h2)
   go_loopg [6] n (λg1 vb wr=>∃ (bs:Nat) (di:Array α),vb=.int .i64 bs/\20<=bs/\n<=bs+g1/\bs<=n+n+20/\Hid (Tl (Yx (ltOf cf) tag) tag n bs d0 di)/\Hid (SWK enc 6 w0 blk off di wr))
   case atStart=>exact⟨20,dz,rfl,Om,Om,Om,L0,H2⟩
   case round =>
    clear hsd HF HW L0 H2;obtain⟨bs,di,rfl,hb20,hg,hb2,HL,HW⟩:=hrel;by_cases hlt:bs<n
    ·have hltz:(bs:Int)<(n:Int):=Om;go_wp2_with fail
     go_loopg [7,8] n (λg1 va vb wr=>∃ (k A:Nat) (di:Array α),Hid (A=2*k*bs)/\va=.int .i64 A/\vb=.int .i64 ((A:Int)+2*bs)/\A<=n/\n<=A+g1/\Hid (Ls (Yx (ltOf cf) tag) tag n bs k d0 di)/\Hid (SWK enc 6 w0 blk off di wr))
     case atStart=>exact⟨0,0,di,by show _=_;omega,rfl,by go_num,Om,Om,HL.out.start,HW.out⟩
     case round =>
      clear HL HW;obtain⟨k,A,di,HA,rfl,rfl,hAn,hg3,HP,HW⟩:=hrel;have hsd:Hid (di.size=d0.size):=HP.out.perm.1;have hsn:Hid (di.size=n):=hsd.out.trans HN.out.symm;by_cases hlt3:A+2*bs<=n
      ·have hltz3:(A:Int)+2*bs<=(n:Int):=Om;obtain⟨p1,p2⟩:=HP.out.pair HN (by rw[<- HA.out];exact hlt3);rw[<- HA.out]at p1 p2;have C1:=MRG.out (2*bs+1) wr A (A+bs) (A+2*bs) A ((A:Int)+bs) ((A:Int)+2*bs) di rfl Om Om Om Om Om (by have:=hsn.out;omega) hsd.out HW.out p1.1 p2.1 (p1.tags p2);clear p1 p2;go_wp2_with (go_at_call 257;refine C1.mono ?_;rintro e W1 ⟨rfl,d',h2,h3⟩;clear C1;have H2:=Hd h2;have H3:=Hd h3;clear h2 h3)
       go_roundg (n-(A+2*bs))
       case measure=>omega
       case rel=>exact⟨k+1,A+2*bs,d',by have:=HA.out;show _=_;rw[(Om:2*(k+1)=2*k+2),Nat.add_mul,<- this],by go_num,by go_num,Om,Om,HP.out.step HN (by rw[<- HA.out];exact hlt3) (by rw[<- HA.out];exact H2),H3⟩
      ·have hltz3:¬ (A:Int)+2*bs<=(n:Int):=Om;by_cases hm:A+bs<n
       ·have hmz:(A:Int)+bs<(n:Int):=Om;obtain⟨p1,p2⟩:=HP.out.tail HN (by rw[<- HA.out];exact hm) (by rw[<- HA.out];omega);rw[<- HA.out]at p1 p2;have C1:=MRG.out (2*bs+1) wr A (A+bs) n A ((A:Int)+bs) n di rfl Om rfl Om Om hm (by have:=hsn.out;omega) hsd.out HW.out p1.1 p2.1 (p1.tags p2);clear p1 p2;go_wp2_with (go_at_call 257;refine C1.mono ?_;rintro e W1 ⟨rfl,d',h2,h3⟩;clear C1;have H2:=Hd h2;have H3:=Hd h3;clear h2 h3)
        go_roundg (n-bs*2)
        case measure=>omega
        case rel=>exact⟨bs*2,d',by go_num,Om,Om,Om,by rw[Nat.mul_comm];exact HP.out.close HN (by rw[<- HA.out];exact hAn) (by rw[<- HA.out];omega) (.inr (by rw[<- HA.out];exact⟨hm,H2⟩)),H3⟩
       ·have hmz:¬ (A:Int)+bs<(n:Int):=Om;have L2:Hid (Tl (Yx (ltOf cf) tag) tag n (2*bs) d0 di):=HP.out.close HN (by rw[<- HA.out];exact hAn) (by rw[<- HA.out];omega) (.inl ⟨rfl,by rw[<- HA.out];omega⟩);go_wp2_with fail
        go_roundg (n-bs*2)
        case measure=>omega
        case rel=>exact⟨bs*2,di,by go_num,Om,Om,Om,by rw[Nat.mul_comm];exact L2,HW⟩
    ·have hltz:¬ (bs:Int)<(n:Int):=Om;go_wp2_with fail
     go_end0
     exact⟨rfl,di,HL.out.stable HS.out HN Om (λi hi=>HT.out i hi),by rw[HN.out];exact HL.out.perm.1,HW.out⟩
theorem Ej{α:Type}[Inhabited α](enc:α->List Value)(w0:World)(blk off cap g:Nat)(cb:Array Value)(cf:α->α->Int)(tag:α->Nat)(d0:Array α)(R:RowK enc 6 w0 blk off d0)
  (eg:∀ args w,(callFunc g args).run Tryz.prog w=.ok (.enter g args) w) (hcmp:CmpLays Tryz.prog g cb enc 6 cf blk off d0.size w0) (hS:SWO (ltOf cf)) (hsz:d0.size<1152921504606846976) (ht:∀ i,i<d0.size->tag d0[i]! = i) :
  Calls Tryz.prog 179 #[.slice (some ⟨blk,off,none⟩) d0.size cap,.func (.func g) #[] cb] w0 λe w'=>e=.returned (.tuple #[])/\∃ d',d'.toList=Z6 (ltOf cf) d0.toList/\d'.size=d0.size/\SWK enc 6 w0 blk off d' w':=by
 have C1:=Zg9 enc w0 blk off cap g cb cf tag d0 R eg hcmp hS hsz ht;generalize d0.size=n at C1⊢;clear R hcmp hS hsz ht eg;go_enter Tryz.func179,Tryz.ntmps179
 go_wp2_with (go_at_call 226;refine C1.mono ?_;rintro e W1 ⟨rfl,h2⟩;clear C1)
 go_end0
 exact⟨rfl,h2⟩
end
section
open Go.Shelf Go.RowKit Go.Lib Go.Sort SS
theorem Zml(A:Option Addr)(cap:Nat)(v:Value)(w:World):Calls Tryz.prog 256 #[.slice A 0 cap,.int .i64 0,.int .i64 0,v] w λe w'=>e=.returned (.tuple #[])/\w'=w:=by
 go_enter Tryz.func256,Tryz.ntmps256
 go_wp2_with fail
 go_loopw [8] (λv wr=>v=.int .i64 1/\wr=w) (λ_ _=>0)
 case atStart=>exact⟨rfl,rfl⟩
 case round =>
  obtain⟨rfl,rfl⟩:=hrel;go_wp2_with fail
  go_end0
  exact⟨rfl,rfl⟩
theorem Zki(A:Option Addr)(cap:Nat)(v:Value)(w:World):Calls Tryz.prog 226 #[.slice A 0 cap,.int .i64 0,v] w λe w'=>e=.returned (.tuple #[])/\w'=w:=by
 go_enter Tryz.func226,Tryz.ntmps226
 go_wp2_with fail
 go_loopw [7,8] (λa b wr=>a=.int .i64 0/\b=.int .i64 20/\wr=w) (λ_ _ _=>0)
 case atStart=>exact⟨rfl,rfl,rfl⟩
 case round =>
  obtain⟨rfl,rfl,rfl⟩:=hrel;have C1:=Zml A cap v wr;go_wp2_with (go_at_call 256;refine C1.mono ?_;rintro e W1 ⟨rfl,rfl⟩;clear C1)
  go_loopw [6] (λv wr=>v=.int .i64 20/\wr=W1) (λ_ _=>0)
  case atStart=>exact⟨rfl,rfl⟩
  case round =>
   obtain⟨rfl,rfl⟩:=hrel;go_wp2_with fail
   go_end0
   exact⟨rfl,rfl⟩
theorem Zkm(A:Option Addr)(cap:Nat)(v:Value)(w:World):Calls Tryz.prog 179 #[.slice A 0 cap,v] w λe w'=>e=.returned (.tuple #[])/\w'=w:=by
 have C1:=Zki A cap v w;go_enter Tryz.func179,Tryz.ntmps179
 go_wp2_with (go_at_call 226;refine C1.mono ?_;rintro e W1 ⟨rfl,rfl⟩;clear C1)
 go_end0
 exact⟨rfl,rfl⟩
theorem Zfd{α:Type}[Inhabited α](enc:α->List Value)(hk:∀ x,(enc x).length=6)(h1:∀ x,∀ v∈enc x,v.oneCell'=true)(cf:α->α->Int)(tag:α->Nat)(B T n g:Nat)(v:Value)(ds:List α)(w:World)(h:w.ownsRow B T 6 v n (ds.flatMap enc))(hn:ds.length=n)
  (eg:∀ args w,(callFunc g args).run Tryz.prog w=.ok (.enter g args) w) (hcmp:∀ (x y:α) (w:World),Calls Tryz.prog g #[.agg (enc x).toArray,.agg (enc y).toArray] w λe w'=>e=.returned (.int .i64 (cf x y))/\∃ q os,w'=grow (w.drewN q) os) (hS:SWO (ltOf cf)) (hsz:n<1152921504606846976) (ht:∀ i (hi:i<ds.length),tag ds[i]=i) :
  Calls Tryz.prog 179 #[v,.func (.func g) #[] #[]] w λe w'=>e=.returned (.tuple #[])/\w'.ownsRow B T 6 v n ((Z6 (ltOf cf) ds).flatMap enc)/\Fr (λj=>v.ownBlock=some j) w w':=by
 rcases id h with ⟨hl,⟨rfl,rfl⟩|⟨gg,cap,cur,rfl,hb,hc,h2,h3,h4,h5⟩⟩
 ·have:ds=[]:=List.eq_nil_of_length_eq_zero hn;subst this;refine (Zkm none 0 _ w).mono ?_;rintro e w' ⟨rfl,rfl⟩;exact⟨rfl,h,Fl _⟩
 ·have R:=Jr (d:=ds.toArray) h hk h1 rfl (by simp[hn])
  have:=Ej enc w gg 0 cap g #[] cf tag ds.toArray R eg (by
   intro m os dk _ x y
   exact hcmp x y _) hS (by simp[hn];exact hsz) (λi hi=>by
    have hi':i<ds.length:=(by simpa using hi);rw[getElem!_pos _ i hi]
    simpa using ht i hi')
  rw[show ds.toArray.size=n by simp[hn]]at this;refine this.mono ?_;rintro e w' ⟨rfl,d',e1,e2,hs⟩;refine⟨rfl,?_,(Zb0 hs).mono (λj _ q=>by rw[q];rfl)⟩;have:=E9 h hk (e2.trans (by simp[hn])) hs;rw[e1]at this;exact this
end
end Go.Proofs.YtlfoalomaofejaaGreatDoor
