/- The stable sort (slices.stable -/
import Derived.Test.YtlfoalomaofejaaGreatDoorC9
import Derived.Test.YtlfoalomaofejaaGreatDoorC8
set_option linter.all false
set_option maxRecDepth 100000
set_option maxHeartbeats 4000000
namespace Go.Proofs.YtlfoalomaofejaaGreatDoor
section
open Go.Shelf Go.RowKit Go.Lib Go.Sort SS
theorem Zbc{P:Program}{α:Type}[Inhabited α]{enc:α->List Value}{k:Nat}{w0 W:World}{blk off g size:Nat}{cb:Array Value}{cf:α->α->Int}{dk:Array α}(hC:CmpLays P g cb enc k cf blk off size w0)(h:SWK enc k w0 blk off dk W)(hblk:blk<w0.heap.size)(hs:dk.size=size):CmpLays P g cb enc k cf blk off size W:=by
 intro m os dj hj x y;obtain⟨n',os',e⟩:=h.on hblk m dj os (hj.trans hs.symm);rw[e];exact hC n' os' dj hj x y
def Zm4{α:Type}[Inhabited α](P:Program)(enc:α->List Value)(k:Nat)(w0:World)(blk off cap sz g:Nat)(cb:Array Value)(cf:α->α->Int)(d0:Array α):Prop :=
 ∀ (W:World) (a b:Nat) (ai bi:Int) (dk:Array α),ai=a->bi=b->a<=b->b<=dk.size->dk.size=d0.size->SWK enc k w0 blk off dk W ->
  Calls P 168 #[.slice (some ⟨blk,off,none⟩) sz cap,.int .i64 ai,.int .i64 bi,.func (.func g) #[] cb] W λe w'=>e=.returned (.tuple #[])/\SWK enc k w0 blk off (insertionSort (ltOf cf) dk a b) w'
theorem Zao{α:Type}[Inhabited α](enc:α->List Value)(w0:World)(blk off cap g:Nat)(cb:Array Value)(cf:α->α->Int)(d0:Array α)(R:RowK enc 5 w0 blk off d0)
  (eg:∀ args w,(callFunc g args).run Tryz.prog w=.ok (.enter g args) w) (hcmp:CmpLays Tryz.prog g cb enc 5 cf blk off d0.size w0) (hS:SWO (ltOf cf)) (hsz:d0.size<4611686018427387904) :
  Zm4 Tryz.prog enc 5 w0 blk off cap d0.size g cb cf d0:=by
 rintro W a b ai bi dk ha hb hab hbk hs h;subst ha hb;have:=AnyQ.insertionSortCmpFunc layInsu 5 (λw=>sp_u.aE w) (λw=>sp_u.zE w) enc R.hk R.h1 cf g cb blk off cap a b dk W eg (by rw[hs];exact Zbc hcmp h R.hblk hs) (h.holds R.hblk R.hH hs) (h.lt R.hblk) hab hbk Om;rw[hs]at this;refine Calls.mono this ?_;rintro e w' ⟨rfl,n,os,rfl⟩;exact⟨rfl,h.on R.hblk n _ os (insertionSort_holds hS dk a b hab hbk).1.1⟩
theorem Zdy{α:Type}[Inhabited α](enc:α->List Value)(w0:World)(blk off cap g:Nat)(cb:Array Value)(cf:α->α->Int)(tag:α->Nat)(d0:Array α)(R:RowK enc 5 w0 blk off d0)
  (eg:∀ args w,(callFunc g args).run Tryz.prog w=.ok (.enter g args) w) (hcmp:CmpLays Tryz.prog g cb enc 5 cf blk off d0.size w0) (hS:SWO (ltOf cf)) (hsz:d0.size<4611686018427387904) :
  ∀ N,Mn Tryz.prog enc 5 w0 blk off cap d0.size g cb d0 (Yx (ltOf cf) tag) tag N
 | 0=>by rintro W a m b _ _ _ dk rfl rfl rfl hN;omega
 | N+1=>Bl sp_u Tryz.func169 (λ_ _=>Kr) (λ_ _=>Kr) enc w0 blk off cap g cb cf tag d0 R eg hcmp hS hsz
   (by
     rintro W a m b _ _ _ dk rfl rfl rfl h1 h2 h3 h4 h5
     exact Zhm enc w0 W blk off cap a m b d0.size d0 dk R h4 h5 h4.symm h1 h2 h3 Om _) N (Zdy enc w0 blk off cap g cb cf tag d0 R eg hcmp hS hsz N)
theorem Zha{α:Type}[Inhabited α](enc:α->List Value)(w0:World)(blk off cap g:Nat)(cb:Array Value)(cf:α->α->Int)(tag:α->Nat)(d0:Array α)(R:RowK enc 5 w0 blk off d0)
  (eg:∀ args w,(callFunc g args).run Tryz.prog w=.ok (.enter g args) w) (hcmp:CmpLays Tryz.prog g cb enc 5 cf blk off d0.size w0) (hS:SWO (ltOf cf)) (hsz:d0.size<1152921504606846976) (ht:∀ i,i<d0.size->tag d0[i]! = i) :
  Calls Tryz.prog 131 #[.slice (some ⟨blk,off,none⟩) d0.size cap,.int .i64 d0.size,.func (.func g) #[] cb] w0 λe w'=>e=.returned (.tuple #[])/\∃ d',d'.toList=Z6 (ltOf cf) d0.toList/\d'.size=d0.size/\SWK enc 5 w0 blk off d' w':=by
 have INS:=Zao enc w0 blk off cap g cb cf d0 R eg hcmp hS Om;have MRG:=λN=>Zdy enc w0 blk off cap g cb cf tag d0 R eg hcmp hS Om N
 have HS:Aside _:=hS;have H0:=Hd (SWK.start R.hH);obtain⟨n,hn⟩:∃ n,n=d0.size:=⟨_,rfl⟩;rw[<- hn]at hsz ht INS⊢;have MRG:Aside (∀ N,Mn Tryz.prog enc 5 w0 blk off cap n g cb d0 (Yx (ltOf cf) tag) tag N):=λN=>by rw[hn];exact MRG N
 have INS:Aside _:=INS;have HT:Aside _:=ht;have HN:=Hd hn;clear R hcmp hS ht eg hn;go_enter Tryz.func131,Tryz.ntmps131
 go_wp2_with fail
 go_loopg [7,8] n (λg1 va vb wr=>∃ (t A:Nat) (di:Array α),Hid (A=t*20)/\va=.int .i64 A/\vb=.int .i64 ((A:Int)+20)/\A<=n/\n<=A+g1/\Hid (Uv (Yx (ltOf cf) tag) tag n t d0 di)/\Hid (SWK enc 5 w0 blk off di wr))
 case atStart=>exact⟨0,0,d0,rfl,rfl,rfl,Om,Om,Uv.start,H0⟩
 case round =>
  obtain⟨t,A,di,HA,rfl,rfl,htn,hg,HF,HW⟩:=hrel;have hsd:Hid (di.size=d0.size):=HF.out.perm.1;by_cases hlt:A+20<=n
  ·have hltz:(A:Int)+20<=(n:Int):=Om;have C1:=INS.out wr A (A+20) A ((A:Int)+20) di rfl Om Om (by have:=hsd.out;have:=HN.out;omega) hsd.out HW.out;have M:=Hd (Wl (tag:=tag) HS.out di A (A+20) Om (by have:=hsd.out;have:=HN.out;omega) (by rw[HA.out];exact HF.out.tags HN HT.out (by have:=HA.out;omega)));go_wp2_with (go_at_call 168;refine C1.mono ?_;rintro e W1 ⟨rfl,h2⟩;clear C1)
   go_roundg (n-(A+20))
   case measure=>omega
   case rel=>exact⟨t+1,A+20,_,by have:=HA.out;show _=_;omega,by go_num,by go_num,Om,Om,HF.out.step HN HT.out (by have:=HA.out;omega) (by rw[<- HA.out];exact M),h2⟩
  ·have hltz:¬ (A:Int)+20<=(n:Int):=Om;have C1:=INS.out wr A n A n di rfl rfl Om (by have:=hsd.out;have:=HN.out;omega) hsd.out HW.out;have M:=Hd (Wl (tag:=tag) HS.out di A n Om (by have:=hsd.out;have:=HN.out;omega) (by rw[HA.out];exact HF.out.tags HN HT.out (Nl _)));have L0:Hid (Tl (Yx (ltOf cf) tag) tag n 20 d0 (insertionSort (ltOf cf) di A n)):=HF.out.close HN HT.out (by have:=HA.out;omega) (by have:=HA.out;omega) (by rw[<- HA.out];exact M);clear M;generalize insertionSort (ltOf cf) di A n=dz at C1 L0;go_wp2_with (go_at_call 168;refine C1.mono ?_;rintro e W1 ⟨rfl,h2⟩;clear C1;have H2:=Hd h2;clear h2)
   go_loopg [6] n (λg1 vb wr=>∃ (bs:Nat) (di:Array α),vb=.int .i64 bs/\20<=bs/\n<=bs+g1/\bs<=n+n+20/\Hid (Tl (Yx (ltOf cf) tag) tag n bs d0 di)/\Hid (SWK enc 5 w0 blk off di wr))
   case atStart=>exact⟨20,dz,rfl,Om,Om,Om,L0,H2⟩
   case round =>
    clear hsd HF HW L0 H2;obtain⟨bs,di,rfl,hb20,hg,hb2,HL,HW⟩:=hrel;by_cases hlt:bs<n
    ·have hltz:(bs:Int)<(n:Int):=Om;go_wp2_with fail
     go_loopg [7,8] n (λg1 va vb wr=>∃ (k A:Nat) (di:Array α),Hid (A=2*k*bs)/\va=.int .i64 A/\vb=.int .i64 ((A:Int)+2*bs)/\A<=n/\n<=A+g1/\Hid (Ls (Yx (ltOf cf) tag) tag n bs k d0 di)/\Hid (SWK enc 5 w0 blk off di wr))
     case atStart=>exact⟨0,0,di,by show _=_;omega,rfl,by go_num,Om,Om,HL.out.start,HW.out⟩
     case round =>
      clear HL HW;obtain⟨k,A,di,HA,rfl,rfl,hAn,hg3,HP,HW⟩:=hrel;have hsd:Hid (di.size=d0.size):=HP.out.perm.1;have hsn:Hid (di.size=n):=hsd.out.trans HN.out.symm;by_cases hlt3:A+2*bs<=n
      ·have hltz3:(A:Int)+2*bs<=(n:Int):=Om;obtain⟨p1,p2⟩:=HP.out.pair HN (by rw[<- HA.out];exact hlt3);rw[<- HA.out]at p1 p2;have C1:=MRG.out (2*bs+1) wr A (A+bs) (A+2*bs) A ((A:Int)+bs) ((A:Int)+2*bs) di rfl Om Om Om Om Om (by have:=hsn.out;omega) hsd.out HW.out p1.1 p2.1 (p1.tags p2);clear p1 p2;go_wp2_with (go_at_call 169;refine C1.mono ?_;rintro e W1 ⟨rfl,d',h2,h3⟩;clear C1;have H2:=Hd h2;have H3:=Hd h3;clear h2 h3)
       go_roundg (n-(A+2*bs))
       case measure=>omega
       case rel=>exact⟨k+1,A+2*bs,d',by have:=HA.out;show _=_;rw[(Om:2*(k+1)=2*k+2),Nat.add_mul,<- this],by go_num,by go_num,Om,Om,HP.out.step HN (by rw[<- HA.out];exact hlt3) (by rw[<- HA.out];exact H2),H3⟩
      ·have hltz3:¬ (A:Int)+2*bs<=(n:Int):=Om;by_cases hm:A+bs<n
       ·have hmz:(A:Int)+bs<(n:Int):=Om;obtain⟨p1,p2⟩:=HP.out.tail HN (by rw[<- HA.out];exact hm) (by rw[<- HA.out];omega);rw[<- HA.out]at p1 p2;have C1:=MRG.out (2*bs+1) wr A (A+bs) n A ((A:Int)+bs) n di rfl Om rfl Om Om hm (by have:=hsn.out;omega) hsd.out HW.out p1.1 p2.1 (p1.tags p2);clear p1 p2;go_wp2_with (go_at_call 169;refine C1.mono ?_;rintro e W1 ⟨rfl,d',h2,h3⟩;clear C1;have H2:=Hd h2;have H3:=Hd h3;clear h2 h3)
        go_roundg (n-bs*2)
        case measure=>omega
        case rel=>exact⟨bs*2,d',by go_num,Om,Om,Om,by rw[Nat.mul_comm];exact HP.out.close HN (by rw[<- HA.out];exact hAn) (by rw[<- HA.out];omega) (.inr (by rw[<- HA.out];exact⟨hm,H2⟩)),H3⟩
       ·have hmz:¬ (A:Int)+bs<(n:Int):=Om;have L2:Hid (Tl (Yx (ltOf cf) tag) tag n (2*bs) d0 di):=HP.out.close HN (by rw[<- HA.out];exact hAn) (by rw[<- HA.out];omega) (.inl ⟨rfl,by rw[<- HA.out];omega⟩);go_wp2_with fail
        go_roundg (n-bs*2)
        case measure=>omega
        case rel=>exact⟨bs*2,di,by go_num,Om,Om,Om,by rw[Nat.mul_comm];exact L2,HW⟩
    ·have hltz:¬ (bs:Int)<(n:Int):=Om;go_wp2_with fail
     go_end0
     exact⟨rfl,di,HL.out.stable HS.out HN Om (λi hi=>HT.out i hi),by rw[HN.out];exact HL.out.perm.1,HW.out⟩
theorem Ek{α:Type}[Inhabited α](enc:α->List Value)(w0:World)(blk off cap g:Nat)(cb:Array Value)(cf:α->α->Int)(tag:α->Nat)(d0:Array α)(R:RowK enc 5 w0 blk off d0)
  (eg:∀ args w,(callFunc g args).run Tryz.prog w=.ok (.enter g args) w) (hcmp:CmpLays Tryz.prog g cb enc 5 cf blk off d0.size w0) (hS:SWO (ltOf cf)) (hsz:d0.size<1152921504606846976) (ht:∀ i,i<d0.size->tag d0[i]! = i) :
  Calls Tryz.prog 98 #[.slice (some ⟨blk,off,none⟩) d0.size cap,.func (.func g) #[] cb] w0 λe w'=>e=.returned (.tuple #[])/\∃ d',d'.toList=Z6 (ltOf cf) d0.toList/\d'.size=d0.size/\SWK enc 5 w0 blk off d' w':=by
 have C1:=Zha enc w0 blk off cap g cb cf tag d0 R eg hcmp hS hsz ht;generalize d0.size=n at C1⊢;clear R hcmp hS hsz ht eg;go_enter Tryz.func98,Tryz.ntmps98
 go_wp2_with (go_at_call 131;refine C1.mono ?_;rintro e W1 ⟨rfl,h2⟩;clear C1)
 go_end0
 exact⟨rfl,h2⟩
end
section
open Go.Shelf Go.RowKit Go.Lib Go.Sort SS
theorem Zmm(A:Option Addr)(cap:Nat)(v:Value)(w:World):Calls Tryz.prog 168 #[.slice A 0 cap,.int .i64 0,.int .i64 0,v] w λe w'=>e=.returned (.tuple #[])/\w'=w:=by
 go_enter Tryz.func168,Tryz.ntmps168
 go_wp2_with fail
 go_loopw [8] (λv wr=>v=.int .i64 1/\wr=w) (λ_ _=>0)
 case atStart=>exact⟨rfl,rfl⟩
 case round =>
  obtain⟨rfl,rfl⟩:=hrel;go_wp2_with fail
  go_end0
  exact⟨rfl,rfl⟩
theorem Zkj(A:Option Addr)(cap:Nat)(v:Value)(w:World):Calls Tryz.prog 131 #[.slice A 0 cap,.int .i64 0,v] w λe w'=>e=.returned (.tuple #[])/\w'=w:=by
 go_enter Tryz.func131,Tryz.ntmps131
 go_wp2_with fail
 go_loopw [7,8] (λa b wr=>a=.int .i64 0/\b=.int .i64 20/\wr=w) (λ_ _ _=>0)
 case atStart=>exact⟨rfl,rfl,rfl⟩
 case round =>
  obtain⟨rfl,rfl,rfl⟩:=hrel;have C1:=Zmm A cap v wr;go_wp2_with (go_at_call 168;refine C1.mono ?_;rintro e W1 ⟨rfl,rfl⟩;clear C1)
  go_loopw [6] (λv wr=>v=.int .i64 20/\wr=W1) (λ_ _=>0)
  case atStart=>exact⟨rfl,rfl⟩
  case round =>
   obtain⟨rfl,rfl⟩:=hrel;go_wp2_with fail
   go_end0
   exact⟨rfl,rfl⟩
theorem Zkn(A:Option Addr)(cap:Nat)(v:Value)(w:World):Calls Tryz.prog 98 #[.slice A 0 cap,v] w λe w'=>e=.returned (.tuple #[])/\w'=w:=by
 have C1:=Zkj A cap v w;go_enter Tryz.func98,Tryz.ntmps98
 go_wp2_with (go_at_call 131;refine C1.mono ?_;rintro e W1 ⟨rfl,rfl⟩;clear C1)
 go_end0
 exact⟨rfl,rfl⟩
theorem Zfe{α:Type}[Inhabited α](enc:α->List Value)(hk:∀ x,(enc x).length=5)(h1:∀ x,∀ v∈enc x,v.oneCell'=true)(cf:α->α->Int)(tag:α->Nat)(B T n g:Nat)(v:Value)(ds:List α)(w:World)(h:w.ownsRow B T 5 v n (ds.flatMap enc))(hn:ds.length=n)
  (eg:∀ args w,(callFunc g args).run Tryz.prog w=.ok (.enter g args) w) (hcmp:∀ (x y:α) (w:World),Calls Tryz.prog g #[.agg (enc x).toArray,.agg (enc y).toArray] w λe w'=>e=.returned (.int .i64 (cf x y))/\∃ q os,w'=grow (w.drewN q) os) (hS:SWO (ltOf cf)) (hsz:n<1152921504606846976) (ht:∀ i (hi:i<ds.length),tag ds[i]=i) :
  Calls Tryz.prog 98 #[v,.func (.func g) #[] #[]] w λe w'=>e=.returned (.tuple #[])/\w'.ownsRow B T 5 v n ((Z6 (ltOf cf) ds).flatMap enc)/\Fr (λj=>v.ownBlock=some j) w w':=by
 rcases id h with ⟨hl,⟨rfl,rfl⟩|⟨gg,cap,cur,rfl,hb,hc,h2,h3,h4,h5⟩⟩
 ·have:ds=[]:=List.eq_nil_of_length_eq_zero hn;subst this;refine (Zkn none 0 _ w).mono ?_;rintro e w' ⟨rfl,rfl⟩;exact⟨rfl,h,Fl _⟩
 ·have R:=Jr (d:=ds.toArray) h hk h1 rfl (by simp[hn])
  have:=Ek enc w gg 0 cap g #[] cf tag ds.toArray R eg (by
   intro m os dk _ x y
   exact hcmp x y _) hS (by simp[hn];exact hsz) (λi hi=>by
    have hi':i<ds.length:=(by simpa using hi);rw[getElem!_pos _ i hi]
    simpa using ht i hi')
  rw[show ds.toArray.size=n by simp[hn]]at this;refine this.mono ?_;rintro e w' ⟨rfl,d',e1,e2,hs⟩;refine⟨rfl,?_,(Zb0 hs).mono (λj _ q=>by rw[q];rfl)⟩;have:=E9 h hk (e2.trans (by simp[hn])) hs;rw[e1]at this;exact this
end
section
open Go.Shelf Go.RowKit Go.Lib Go.Sort SS DT
theorem Kc(a b:ByteArray)(w:World):Calls Tryz.prog 181 #[.string a,.string b] w λe w'=>e=.returned (.int .i64 (Lib.compareBytes a.data.toList b.data.toList))/\w'=w:=Any.strings_Compare laysCompare a b w
structure Els{τ:Type}(d:Ty τ)(kv:τ->Value)(k:Nat)(w:World)(O:Nat->Prop)(xs:List τ)(ds:List (El τ k)):Prop where
 key:ds.map El.key=xs
 rd:∀ x∈ds,d.R w O x.key (x.enc kv)
 tag:∀ i (hi:i<ds.length),ds[i].tag=i
theorem Zcz{τ:Type}{d:Ty τ}{kv:τ->Value}{k:Nat}(hsz:d.sz=k+1)(hd:∀ {w O x cs},d.R w O x cs->∃ rest,cs=kv x::rest){w:World}{O:Nat->Prop}{A:Option Addr}{xs:List τ}(h:d.At w O A xs) :
  ∃ ds:List (El τ k),Els d kv k w O xs ds/\∀ a,A=some a->∀ j u,(ds.flatMap (El.enc kv))[j]?=some u->w.cell? (a.add j)=some u:=by
 have pick:∀ i (hi:i<xs.length),∃ x:El τ k,x.key=xs[i]/\x.tag=i/\d.R w O xs[i] (x.enc kv)/\∀ b o,A=some ⟨b,o,none⟩->∀ j (hj:j<(x.enc kv).length),w.cell? ⟨b,o+i*(k+1)+j,none⟩=some ((x.enc kv)[j]):=by
  intro i hi;rcases h.2 with rfl|⟨b,o,rfl,hb,hl,hc⟩
  ·simp at hi
  ·obtain⟨cs,hr,hcs⟩:=hc i hi;obtain⟨rest,rfl⟩:=hd hr;have hlen:=d.len hr;refine⟨⟨xs[i],rest,by rw[hsz]at hlen;simpa using hlen,λv hv=>d.one hr v (by simp[hv]),i⟩,rfl,rfl,hr,λb' o' e j hj=>?_⟩;simp only[Option.some.injEq,Addr.mk.injEq,and_true]at e;obtain⟨rfl,rfl⟩:=e;have:=hcs j hj;rw[hsz]at this;exact this
 let f:Fin xs.length->El τ k:=λi=>Classical.choose (pick i.1 i.2)
 have hf:∀ i:Fin xs.length,_:=λi=>Classical.choose_spec (pick i.1 i.2)
 have hlen:(List.ofFn f).length=xs.length:=by simp
 have hget:∀ i (hi:i<(List.ofFn f).length),(List.ofFn f)[i]=f ⟨i,by simpa using hi⟩:=λi hi=>by simp
 refine⟨List.ofFn f,⟨?_,?_,?_⟩,?_⟩
 ·apply List.ext_getElem
  ·simp
  ·intro i h1 h2;rw[List.getElem_map,hget i (by simpa using h1)];exact (hf ⟨i,h2⟩).1
 ·intro x hx;obtain⟨i,hi,rfl⟩:=List.getElem_of_mem hx;rw[hget i hi];have:=hf ⟨i,by simpa using hi⟩;show d.R w O (f ⟨i,_⟩).key _;rw[show (f ⟨i,by simpa using hi⟩).key=xs[i]'(by simpa using hi) from this.1];exact this.2.2.1
 ·intro i hi;rw[hget i hi];exact (hf ⟨i,by simpa using hi⟩).2.1
 ·intro a ha j u hu;rcases h.2 with e|⟨b,o,e,hb,hl,hc⟩
  ·subst e;simp at hu
  ·rw[ha]at e;injection e with e
   subst e
   have hflat:∀ (l:List (El τ k)) (j:Nat) (u:Value),(l.flatMap (El.enc kv))[j]?=some u->∃ (i:Nat) (hi:i<l.length) (q:Nat) (hq:q<(l[i].enc kv).length),j=i*(k+1)+q/\(l[i].enc kv)[q]=u:=by
    intro l
    induction l with
    | nil=>intro j u hu;simp at hu
    | cons x l ih =>
     intro j u hu;rw[List.flatMap_cons]at hu;rcases Nat.lt_or_ge j (x.enc kv).length with q|q
     ·rw[List.getElem?_append_left q,Ge q]at hu;exact⟨0,by simp,j,by simpa using q,by simp,by simpa using hu⟩
     ·rw[List.getElem?_append_right q]at hu;obtain⟨i,hi,p,hp,e1,e2⟩:=ih _ _ hu;rw[El.enc_len]at e1 q;exact⟨i+1,by simpa using hi,p,by simpa using hp,by rw[Nat.add_mul,Nat.one_mul];omega,by simpa using e2⟩
   obtain⟨i,hi,q,hq,rfl,rfl⟩:=hflat _ _ _ hu;have hi':i<xs.length:=(by simpa using hi);have:=(hf ⟨i,hi'⟩).2.2.2 b o ha q (by rw[El.enc_len]at hq⊢;exact hq);rw[Addr.add_lit];have e:o+(i*(k+1)+q)=o+i*(k+1)+q:=Om;rw[e,this];simp only[hget i hi];rfl
theorem Dq{τ:Type}{d:Ty τ}{kv:τ->Value}{k:Nat}{w:World}{O:Nat->Prop}{xs:List τ}{ds:List (El τ k)}(h:Els d kv k w O xs ds):ds.length=xs.length:=by rw[<- h.key,List.length_map]
theorem N9{τ:Type}{kv:τ->Value}{k:Nat}(ds:List (El τ k)):(ds.flatMap (El.enc kv)).length=ds.length*(k+1):=by
 induction ds with
 | nil=>simp
 | cons x l ih=>rw[List.flatMap_cons,List.length_append,ih,El.enc_len,List.length_cons,Nat.add_mul,Nat.one_mul];omega
def Vm(a b:ByteArray):Bool:=decide (Lib.compareBytes a.data.toList b.data.toList<0)
def Vu(a b:GWord):Bool:=Vm a.surface b.surface
def P8(a b:GUnk):Bool:=decide (a.cls<b.cls)
def Vd(a b:GRec):Bool:=Vm a.text b.text
theorem Zc4:∀ a b:List UInt8,(Lib.compareBytes a b<0)↔a<b
 | [],[]=>by simp[Lib.compareBytes]
 | [],_::_=>by simp[Lib.compareBytes]
 | _::_,[]=>by simp[Lib.compareBytes]
 | a::l,b::m=>by
  rw[List.cons_lt_cons_iff];unfold Lib.compareBytes
  split
  next h=>exact⟨λ_=>.inl h,λ_=>by decide⟩
  next h =>
   split
   next h2 =>
    refine⟨λq=>absurd q (by decide),λq=>?_⟩;rcases q with q|⟨q,_⟩
    ·exact absurd q h
    ·subst q;exact absurd h2 h
   next h2 =>
    have e:a=b:=by
     have h3:¬ a.toNat<b.toNat:=h;have h4:¬ b.toNat<a.toNat:=h2;exact UInt8.toNat_inj.1 Om
    rw[Zc4 l m];exact⟨λq=>.inr ⟨e,q⟩,λq=>by rcases q with q|⟨_,q⟩;exact absurd q h;exact q⟩
theorem Xn(a b:ByteArray):Vm a b=true↔a.data.toList<b.data.toList:=by
 unfold Vm;rw[decide_eq_true_iff,Zc4]
theorem bytesLt_swo:SWO Vm where
 irrefl x:=by
  cases h:Vm x x with
  | false=>rfl
  | true=>exact absurd ((Xn _ _).1 h) (List.lt_irrefl _)
 trans x y z h1 h2:=(Xn _ _).2 (List.lt_trans ((Xn _ _).1 h1) ((Xn _ _).1 h2))
 ntrans x y z h1 h2:=by
  have n1:¬ x.data.toList<y.data.toList:=λq=>by rw[(Xn _ _).2 q]at h1;cases h1
  have n2:¬ y.data.toList<z.data.toList:=λq=>by rw[(Xn _ _).2 q]at h2;cases h2
  cases h:Vm x z with
  | false=>rfl
  | true=>exact absurd ((Xn _ _).1 h) (List.not_lt.2 (List.le_trans (List.not_lt.1 n2) (List.not_lt.1 n1)))
theorem Pu{α β:Type}{lt:β->β->Bool}(h:SWO lt)(f:α->β):SWO (λx y=>lt (f x) (f y)):=⟨λ_=>h.irrefl _,λ_ _ _=>h.trans _ _ _,λ_ _ _=>h.ntrans _ _ _⟩
theorem K9:SWO Vu:=Pu bytesLt_swo GWord.surface
theorem Hz:SWO Vd:=Pu bytesLt_swo GRec.text
theorem Zev:SWO P8:=⟨λx=>by simp[P8],λx y z h1 h2=>by simp only[P8,decide_eq_true_eq] at *;omega,λx y z h1 h2=>by simp only[P8,decide_eq_false_iff_not] at *;omega⟩
theorem Znm{l:List Value}(h:l.length=5):∃ a b c d e,l=[a,b,c,d,e]:=by
 rcases l with _|⟨a,_|⟨b,_|⟨c,_|⟨d,_|⟨e,_|⟨f,r⟩⟩⟩⟩⟩⟩<;>first|exact⟨_,_,_,_,_,rfl⟩|(exfalso;simp only[List.length_cons,List.length_nil]at h;omega)
theorem four{l:List Value}(h:l.length=4):∃ a b c d,l=[a,b,c,d]:=by
 rcases l with _|⟨a,_|⟨b,_|⟨c,_|⟨d,_|⟨f,r⟩⟩⟩⟩⟩<;>first|exact⟨_,_,_,_,rfl⟩|(exfalso;simp only[List.length_cons,List.length_nil]at h;omega)
theorem three{l:List Value}(h:l.length=3):∃ a b c,l=[a,b,c]:=by
 rcases l with _|⟨a,_|⟨b,_|⟨c,_|⟨f,r⟩⟩⟩⟩<;>first|exact⟨_,_,_,rfl⟩|(exfalso;simp only[List.length_cons,List.length_nil]at h;omega)
abbrev Xp(g:GWord):Value:=.string g.surface
abbrev L6(g:GRec):Value:=.string g.text
abbrev Uu:={u:GUnk // 0<=u.cls/\u.cls<=1000}
instance:Inhabited Uu:=⟨⟨default,by decide⟩⟩
abbrev L5(g:Uu):Value:=.int .i64 g.1.cls
def tUnkB:Ty Uu:=DT.Ty.iso tUnk (·.1)
theorem Fu(x y:El GWord 5)(w:World):Calls Tryz.prog 180 #[.agg (x.enc Xp).toArray,.agg (y.enc Xp).toArray] w λe w'=>e=.returned (.int .i64 (Lib.compareBytes x.key.surface.data.toList y.key.surface.data.toList))/\∃ q os,w'=grow (w.drewN q) os:=by
 obtain⟨kx,rx,hx,_,_⟩:=x;obtain⟨ky,ry,hy,_,_⟩:=y;obtain⟨a1,a2,a3,a4,a5,rfl⟩:=Znm hx;obtain⟨b1,b2,b3,b4,b5,rfl⟩:=Znm hy;show Calls _ _ #[.agg #[.string kx.surface,a1,a2,a3,a4,a5],.agg #[.string ky.surface,b1,b2,b3,b4,b5]] _ _;simp only;generalize kx.surface=a;generalize ky.surface=b;go_enter Tryz.func180,Tryz.ntmps180
 go_wp2_with (first|(go_at_call 181;refine (Kc a b _).mono ?_;rintro e w1 ⟨rfl,rfl⟩)|fail)
 first|go_ret|go_ret2
 exact⟨rfl,0,_,by rw[alloc_eq_grow,alloc_eq_grow,grow_grow];rfl⟩
theorem Af(x y:El GRec 3)(w:World):Calls Tryz.prog 186 #[.agg (x.enc L6).toArray,.agg (y.enc L6).toArray] w λe w'=>e=.returned (.int .i64 (Lib.compareBytes x.key.text.data.toList y.key.text.data.toList))/\∃ q os,w'=grow (w.drewN q) os:=by
 obtain⟨kx,rx,hx,_,_⟩:=x;obtain⟨ky,ry,hy,_,_⟩:=y;obtain⟨a1,a2,a3,rfl⟩:=three hx;obtain⟨b1,b2,b3,rfl⟩:=three hy;show Calls _ _ #[.agg #[.string kx.text,a1,a2,a3],.agg #[.string ky.text,b1,b2,b3]] _ _;simp only;generalize kx.text=a;generalize ky.text=b;go_enter Tryz.func186,Tryz.ntmps186
 go_wp2_with (first|(go_at_call 181;refine (Kc a b _).mono ?_;rintro e w1 ⟨rfl,rfl⟩)|fail)
 first|go_ret|go_ret2
 exact⟨rfl,0,_,by rw[alloc_eq_grow,alloc_eq_grow,grow_grow];rfl⟩
theorem Cz(x y:El Uu 4)(w:World):Calls Tryz.prog 99 #[.agg (x.enc L5).toArray,.agg (y.enc L5).toArray] w λe w'=>e=.returned (.int .i64 (x.key.1.cls-y.key.1.cls))/\∃ q os,w'=grow (w.drewN q) os:=by
 obtain⟨⟨kx,px1,px2⟩,rx,hx,_,_⟩:=x;obtain⟨⟨ky,py1,py2⟩,ry,hy,_,_⟩:=y;obtain⟨a1,a2,a3,a4,rfl⟩:=four hx;obtain⟨b1,b2,b3,b4,rfl⟩:=four hy;show Calls _ _ #[.agg #[.int .i64 kx.cls,a1,a2,a3,a4],.agg #[.int .i64 ky.cls,b1,b2,b3,b4]] _ _;simp only;generalize kx.cls=a at px1 px2⊢;generalize ky.cls=b at py1 py2⊢;go_enter Tryz.func99,Tryz.ntmps99
 go_wp2_with fail
 first|go_ret|go_ret2
 exact⟨rfl,0,_,by rw[alloc_eq_grow,alloc_eq_grow,grow_grow];rfl⟩
theorem O6{τ:Type}[Inhabited τ]{d:Ty τ}{kv:τ->Value}{k:Nat}{w:World}{O:Nat->Prop}{xs:List τ}{ds:List (El τ k)}(h:Els d kv k w O xs ds)(lt:τ->τ->Bool) :
  (Z6 (λx y:El τ k=>lt x.key y.key) ds).map El.key=Z6 lt xs/\∀ x∈Z6 (λx y:El τ k=>lt x.key y.key) ds,d.R w O x.key (x.enc kv):=by
 refine⟨?_,λx hx=>h.rd x ((Zy _ _).mem_iff.1 hx)⟩;rw[<- h.key];exact M1 lt El.key ds
theorem Zb3(B T n:Nat)(v:Value)(ds:List (El GWord 5))(w:World)(h:w.ownsRow B T 6 v n (ds.flatMap (El.enc Xp)))(hn:ds.length=n)(hsz:n<1152921504606846976)(ht:∀ i (hi:i<ds.length),ds[i].tag=i) :
  Calls Tryz.prog 179 #[v,.func (.func 180) #[] #[]] w λe w'=>e=.returned (.tuple #[])/\w'.ownsRow B T 6 v n ((Z6 (λx y:El GWord 5=>Vu x.key y.key) ds).flatMap (El.enc Xp))/\Fr (λj=>v.ownBlock=some j) w w' :=
 Zfd (El.enc Xp) (El.enc_len _) (El.enc_one (λ_=>rfl)) (λx y:El GWord 5=>Lib.compareBytes x.key.surface.data.toList y.key.surface.data.toList) El.tag B T n _ v ds w h hn (λ_ _=>Kr) (λx y w=>Fu x y w) (Pu K9 El.key) hsz ht
def Sv(a b:Uu):Bool:=P8 a.1 b.1
theorem sub_lt(a b:Int):decide (a-b<0)=decide (a<b):=by
 by_cases h:a<b
 ·rw[decide_eq_true h,decide_eq_true Om]
 ·rw[decide_eq_false h,decide_eq_false Om]
theorem Zfa(B T n:Nat)(v:Value)(ds:List (El Uu 4))(w:World)(h:w.ownsRow B T 5 v n (ds.flatMap (El.enc L5)))(hn:ds.length=n)(hsz:n<1152921504606846976)(ht:∀ i (hi:i<ds.length),ds[i].tag=i) :
  Calls Tryz.prog 98 #[v,.func (.func 99) #[] #[]] w λe w'=>e=.returned (.tuple #[])/\w'.ownsRow B T 5 v n ((Z6 (λx y:El Uu 4=>Sv x.key y.key) ds).flatMap (El.enc L5))/\Fr (λj=>v.ownBlock=some j) w w':=by
 have e:(λx y:El Uu 4=>Sv x.key y.key)=ltOf (λx y:El Uu 4=>x.key.1.cls-y.key.1.cls):=by
  funext x y;exact (sub_lt _ _).symm
 rw[e];exact Zfe (El.enc L5) (El.enc_len _) (El.enc_one (λ_=>rfl)) (λx y:El Uu 4=>x.key.1.cls-y.key.1.cls) El.tag B T n _ v ds w h hn (λ_ _=>Kr) (λx y w=>Cz x y w) (by rw[<- e];exact Pu (Pu Zev Subtype.val) El.key) hsz ht
end
end Go.Proofs.YtlfoalomaofejaaGreatDoor
