/- The stable sort (slices.stableCmpFunc, slices.SortStableFunc). (Printed by wip/gen_sort.py.) · The s -/
import Derived.Test.YtoliamijgmifkaaGreatDoorF11
set_option linter.all false
set_option maxRecDepth 100000
set_option maxHeartbeats 4000000
namespace Go.Proofs.YtoliamijgmifkaaGreatDoor
section
open Go.Shelf Go.RowKit Go.Lib Go.Sort SS
theorem Cx{P:Program}{α:Type}[Inhabited α]{enc:α->List Value}{k:Nat}{w0 W:World}{blk off g size:Nat}{cb:Array Value}{cf:α->α->Int}{dk:Array α}(hC:CmpLays P g cb enc k cf blk off size w0)(h:SWK enc k w0 blk off dk W)(hblk:blk<w0.heap.size)(hs:dk.size=size):CmpLays P g cb enc k cf blk off size W:=by
 intro m os dj hj x y;obtain⟨n',os',e⟩:=h.on hblk m dj os (hj.trans hs.symm);rw[e];exact hC n' os' dj hj x y
def Zj7{α:Type}[Inhabited α](P:Program)(enc:α->List Value)(k:Nat)(w0:World)(blk off cap sz g:Nat)(cb:Array Value)(cf:α->α->Int)(d0:Array α):Prop :=
 ∀ (W:World) (a b:Nat) (ai bi:Int) (dk:Array α),ai=a->bi=b->a<=b->b<=dk.size->dk.size=d0.size->SWK enc k w0 blk off dk W ->
  Calls P 172 #[.slice (some ⟨blk,off,none⟩) sz cap,.int .i64 ai,.int .i64 bi,.func (.func g) #[] cb] W fun e w'=>e = .returned (.tuple #[])/\SWK enc k w0 blk off (insertionSort (ltOf cf) dk a b) w'
theorem Dw{α:Type}[Inhabited α](enc:α->List Value)(w0:World)(blk off cap g:Nat)(cb:Array Value)(cf:α->α->Int)(d0:Array α)(R:RowK enc 5 w0 blk off d0)
  (eg:∀ args w,(callFunc g args).run Tryz.prog w = .ok (.enter g args) w) (hcmp:CmpLays Tryz.prog g cb enc 5 cf blk off d0.size w0) (hS:SWO (ltOf cf)) (hsz:d0.size<4611686018427387904) :
  Zj7 Tryz.prog enc 5 w0 blk off cap d0.size g cb cf d0:=by
 rintro W a b ai bi dk ha hb hab hbk hs h;subst ha hb;have:=AnyQ.insertionSortCmpFunc layInsu 5 (fun w=>sp_u.aE w) (fun w=>sp_u.zE w) enc R.hk R.h1 cf g cb blk off cap a b dk W eg (by rw[hs];exact Cx hcmp h R.hblk hs) (h.holds R.hblk R.hH hs) (h.lt R.hblk) hab hbk (by omega);rw[hs]at this;refine Calls.mono this ?_;rintro e w' ⟨rfl,n,os,rfl⟩;exact⟨rfl,h.on R.hblk n _ os (insertionSort_holds hS dk a b hab hbk).1.1⟩
theorem Zbo{α:Type}[Inhabited α](enc:α->List Value)(w0:World)(blk off cap g:Nat)(cb:Array Value)(cf:α->α->Int)(tag:α->Nat)(d0:Array α)(R:RowK enc 5 w0 blk off d0)
  (eg:∀ args w,(callFunc g args).run Tryz.prog w = .ok (.enter g args) w) (hcmp:CmpLays Tryz.prog g cb enc 5 cf blk off d0.size w0) (hS:SWO (ltOf cf)) (hsz:d0.size<4611686018427387904) :
  ∀ N,Np Tryz.prog enc 5 w0 blk off cap d0.size g cb d0 (lt2 (ltOf cf) tag) tag N
 | 0=>by rintro W a m b _ _ _ dk rfl rfl rfl hN;omega
 | N+1=>Em sp_u Tryz.func173 (fun _ _=>by kernel_rfl) (fun _ _=>by kernel_rfl) enc w0 blk off cap g cb cf tag d0 R eg hcmp hS hsz
   (by
     rintro W a m b _ _ _ dk rfl rfl rfl h1 h2 h3 h4 h5
     exact Zfb enc w0 W blk off cap a m b d0.size d0 dk R h4 h5 h4.symm h1 h2 h3 (by omega) _) N (Zbo enc w0 blk off cap g cb cf tag d0 R eg hcmp hS hsz N)
theorem Zez{α:Type}[Inhabited α](enc:α->List Value)(w0:World)(blk off cap g:Nat)(cb:Array Value)(cf:α->α->Int)(tag:α->Nat)(d0:Array α)(R:RowK enc 5 w0 blk off d0)
  (eg:∀ args w,(callFunc g args).run Tryz.prog w = .ok (.enter g args) w) (hcmp:CmpLays Tryz.prog g cb enc 5 cf blk off d0.size w0) (hS:SWO (ltOf cf)) (hsz:d0.size<1152921504606846976) (ht:∀ i,i<d0.size->tag d0[i]! = i) :
  Calls Tryz.prog 153 #[.slice (some ⟨blk,off,none⟩) d0.size cap,.int .i64 d0.size,.func (.func g) #[] cb] w0 fun e w'=>e = .returned (.tuple #[])/\∃ d',d'.toList=Z2 (ltOf cf) d0.toList/\d'.size=d0.size/\SWK enc 5 w0 blk off d' w':=by
 have INS:=Dw enc w0 blk off cap g cb cf d0 R eg hcmp hS (by omega);have MRG:=fun N=>Zbo enc w0 blk off cap g cb cf tag d0 R eg hcmp hS (by omega) N
 have HS:Aside _:=hS;have H0:=Lib.hid (SWK.start R.hH);obtain⟨n,hn⟩:∃ n,n=d0.size:=⟨_,rfl⟩;rw[<- hn]at hsz ht INS⊢;have MRG:Aside (∀ N,Np Tryz.prog enc 5 w0 blk off cap n g cb d0 (lt2 (ltOf cf) tag) tag N):=fun N=>by rw[hn];exact MRG N
 have INS:Aside _:=INS;have HT:Aside _:=ht;have HN:=Lib.hid hn;clear R hcmp hS ht eg hn;go_enter Tryz.func153,Tryz.ntmps153
 go_wp2_with fail
 go_loopg [7,8] n (fun g1 va vb wr=>∃ (t A:Nat) (di:Array α),Hid (A=t*20)/\va = .int .i64 A/\vb = .int .i64 ((A:Int)+20)/\A<=n/\n<=A+g1/\Hid (Ui (lt2 (ltOf cf) tag) tag n t d0 di)/\Hid (SWK enc 5 w0 blk off di wr))
 case atStart=>exact⟨0,0,d0,rfl,rfl,rfl,by omega,by omega,Ui.start,H0⟩
 case round =>
  obtain⟨t,A,di,HA,rfl,rfl,htn,hg,HF,HW⟩:=hrel;have hsd:Hid (di.size=d0.size):=HF.out.perm.1;by_cases hlt:A+20<=n
  ·have hltz:(A:Int)+20<=(n:Int):=by omega
   have C1:=INS.out wr A (A+20) A ((A:Int)+20) di rfl (by omega) (by omega) (by have:=hsd.out;have:=HN.out;omega) hsd.out HW.out;have M:=Lib.hid (Wg (tag:=tag) HS.out di A (A+20) (by omega) (by have:=hsd.out;have:=HN.out;omega) (by rw[HA.out];exact HF.out.tags HN HT.out (by have:=HA.out;omega)));go_wp2_with (go_at_call 172;refine C1.mono ?_;rintro e W1 ⟨rfl,h2⟩;clear C1)
   go_roundg (n-(A+20))
   case measure=>omega
   case rel=>exact⟨t+1,A+20,_,by have:=HA.out;show _=_;omega,by go_num,by go_num,by omega,by omega,HF.out.step HN HT.out (by have:=HA.out;omega) (by rw[<- HA.out];exact M),h2⟩
  ·have hltz:¬ (A:Int)+20<=(n:Int):=by omega
   have C1:=INS.out wr A n A n di rfl rfl (by omega) (by have:=hsd.out;have:=HN.out;omega) hsd.out HW.out;have M:=Lib.hid (Wg (tag:=tag) HS.out di A n (by omega) (by have:=hsd.out;have:=HN.out;omega) (by rw[HA.out];exact HF.out.tags HN HT.out (Nat.le_refl _)));have L0:Hid (Ta (lt2 (ltOf cf) tag) tag n 20 d0 (insertionSort (ltOf cf) di A n)):=HF.out.close HN HT.out (by have:=HA.out;omega) (by have:=HA.out;omega) (by rw[<- HA.out];exact M);clear M;generalize insertionSort (ltOf cf) di A n=dz at C1 L0;go_wp2_with (go_at_call 172;refine C1.mono ?_;rintro e W1 ⟨rfl,h2⟩;clear C1;have H2:=Lib.hid h2;clear h2)
   go_loopg [6] n (fun g1 vb wr=>∃ (bs:Nat) (di:Array α),vb = .int .i64 bs/\20<=bs/\n<=bs+g1/\bs<=n+n+20/\Hid (Ta (lt2 (ltOf cf) tag) tag n bs d0 di)/\Hid (SWK enc 5 w0 blk off di wr))
   case atStart=>exact⟨20,dz,rfl,by omega,by omega,by omega,L0,H2⟩
   case round =>
    clear hsd HF HW L0 H2;obtain⟨bs,di,rfl,hb20,hg,hb2,HL,HW⟩:=hrel;by_cases hlt:bs<n
    ·have hltz:(bs:Int)<(n:Int):=by omega
     go_wp2_with fail
     go_loopg [7,8] n (fun g1 va vb wr=>∃ (k A:Nat) (di:Array α),Hid (A=2*k*bs)/\va = .int .i64 A/\vb = .int .i64 ((A:Int)+2*bs)/\A<=n/\n<=A+g1/\Hid (Ms (lt2 (ltOf cf) tag) tag n bs k d0 di)/\Hid (SWK enc 5 w0 blk off di wr))
     case atStart=>exact⟨0,0,di,by show _=_;omega,rfl,by go_num,by omega,by omega,HL.out.start,HW.out⟩
     case round =>
      clear HL HW;obtain⟨k,A,di,HA,rfl,rfl,hAn,hg3,HP,HW⟩:=hrel;have hsd:Hid (di.size=d0.size):=HP.out.perm.1;have hsn:Hid (di.size=n):=hsd.out.trans HN.out.symm;by_cases hlt3:A+2*bs<=n
      ·have hltz3:(A:Int)+2*bs<=(n:Int):=by omega
       obtain⟨p1,p2⟩:=HP.out.pair HN (by rw[<- HA.out];exact hlt3);rw[<- HA.out]at p1 p2;have C1:=MRG.out (2*bs+1) wr A (A+bs) (A+2*bs) A ((A:Int)+bs) ((A:Int)+2*bs) di rfl (by omega) (by omega) (by omega) (by omega) (by omega) (by have:=hsn.out;omega) hsd.out HW.out p1.1 p2.1 (p1.tags p2);clear p1 p2;go_wp2_with (go_at_call 173;refine C1.mono ?_;rintro e W1 ⟨rfl,d',h2,h3⟩;clear C1;have H2:=Lib.hid h2;have H3:=Lib.hid h3;clear h2 h3)
       go_roundg (n-(A+2*bs))
       case measure=>omega
       case rel=>exact⟨k+1,A+2*bs,d',by have:=HA.out;show _=_;rw[show 2*(k+1)=2*k+2 by omega,Nat.add_mul,<- this],by go_num,by go_num,by omega,by omega,HP.out.step HN (by rw[<- HA.out];exact hlt3) (by rw[<- HA.out];exact H2),H3⟩
      ·have hltz3:¬ (A:Int)+2*bs<=(n:Int):=by omega
       by_cases hm:A+bs<n
       ·have hmz:(A:Int)+bs<(n:Int):=by omega
        obtain⟨p1,p2⟩:=HP.out.tail HN (by rw[<- HA.out];exact hm) (by rw[<- HA.out];omega);rw[<- HA.out]at p1 p2;have C1:=MRG.out (2*bs+1) wr A (A+bs) n A ((A:Int)+bs) n di rfl (by omega) rfl (by omega) (by omega) hm (by have:=hsn.out;omega) hsd.out HW.out p1.1 p2.1 (p1.tags p2);clear p1 p2;go_wp2_with (go_at_call 173;refine C1.mono ?_;rintro e W1 ⟨rfl,d',h2,h3⟩;clear C1;have H2:=Lib.hid h2;have H3:=Lib.hid h3;clear h2 h3)
        go_roundg (n-bs*2)
        case measure=>omega
        case rel=>exact⟨bs*2,d',by go_num,by omega,by omega,by omega,by rw[Nat.mul_comm];exact HP.out.close HN (by rw[<- HA.out];exact hAn) (by rw[<- HA.out];omega) (.inr (by rw[<- HA.out];exact⟨hm,H2⟩)),H3⟩
       ·have hmz:¬ (A:Int)+bs<(n:Int):=by omega
        have L2:Hid (Ta (lt2 (ltOf cf) tag) tag n (2*bs) d0 di):=HP.out.close HN (by rw[<- HA.out];exact hAn) (by rw[<- HA.out];omega) (.inl ⟨rfl,by rw[<- HA.out];omega⟩);go_wp2_with fail
        go_roundg (n-bs*2)
        case measure=>omega
        case rel=>exact⟨bs*2,di,by go_num,by omega,by omega,by omega,by rw[Nat.mul_comm];exact L2,HW⟩
    ·have hltz:¬ (bs:Int)<(n:Int):=by omega
     go_wp2_with fail
     go_end0
     exact⟨rfl,di,HL.out.stable HS.out HN (by omega) (fun i hi=>HT.out i hi),by rw[HN.out];exact HL.out.perm.1,HW.out⟩
theorem Hy{α:Type}[Inhabited α](enc:α->List Value)(w0:World)(blk off cap g:Nat)(cb:Array Value)(cf:α->α->Int)(tag:α->Nat)(d0:Array α)(R:RowK enc 5 w0 blk off d0)
  (eg:∀ args w,(callFunc g args).run Tryz.prog w = .ok (.enter g args) w) (hcmp:CmpLays Tryz.prog g cb enc 5 cf blk off d0.size w0) (hS:SWO (ltOf cf)) (hsz:d0.size<1152921504606846976) (ht:∀ i,i<d0.size->tag d0[i]! = i) :
  Calls Tryz.prog 130 #[.slice (some ⟨blk,off,none⟩) d0.size cap,.func (.func g) #[] cb] w0 fun e w'=>e = .returned (.tuple #[])/\∃ d',d'.toList=Z2 (ltOf cf) d0.toList/\d'.size=d0.size/\SWK enc 5 w0 blk off d' w':=by
 have C1:=Zez enc w0 blk off cap g cb cf tag d0 R eg hcmp hS hsz ht;generalize d0.size=n at C1⊢;clear R hcmp hS hsz ht eg;go_enter Tryz.func130,Tryz.ntmps130
 go_wp2_with (go_at_call 153;refine C1.mono ?_;rintro e W1 ⟨rfl,h2⟩;clear C1)
 go_end0
 exact⟨rfl,h2⟩
end
section
open Go.Shelf Go.RowKit Go.Lib Go.Sort SS
theorem Zjr(A:Option Addr)(cap:Nat)(v:Value)(w:World):Calls Tryz.prog 172 #[.slice A 0 cap,.int .i64 0,.int .i64 0,v] w fun e w'=>e = .returned (.tuple #[])/\w'=w:=by
 go_enter Tryz.func172,Tryz.ntmps172
 go_wp2_with fail
 go_loopw [8] (fun v wr=>v = .int .i64 1/\wr=w) (fun _ _=>0)
 case atStart=>exact⟨rfl,rfl⟩
 case round =>
  obtain⟨rfl,rfl⟩:=hrel;go_wp2_with fail
  go_end0
  exact⟨rfl,rfl⟩
theorem Zhy(A:Option Addr)(cap:Nat)(v:Value)(w:World):Calls Tryz.prog 153 #[.slice A 0 cap,.int .i64 0,v] w fun e w'=>e = .returned (.tuple #[])/\w'=w:=by
 go_enter Tryz.func153,Tryz.ntmps153
 go_wp2_with fail
 go_loopw [7,8] (fun a b wr=>a = .int .i64 0/\b = .int .i64 20/\wr=w) (fun _ _ _=>0)
 case atStart=>exact⟨rfl,rfl,rfl⟩
 case round =>
  obtain⟨rfl,rfl,rfl⟩:=hrel;have C1:=Zjr A cap v wr;go_wp2_with (go_at_call 172;refine C1.mono ?_;rintro e W1 ⟨rfl,rfl⟩;clear C1)
  go_loopw [6] (fun v wr=>v = .int .i64 20/\wr=W1) (fun _ _=>0)
  case atStart=>exact⟨rfl,rfl⟩
  case round =>
   obtain⟨rfl,rfl⟩:=hrel;go_wp2_with fail
   go_end0
   exact⟨rfl,rfl⟩
theorem Zh2(A:Option Addr)(cap:Nat)(v:Value)(w:World):Calls Tryz.prog 130 #[.slice A 0 cap,v] w fun e w'=>e = .returned (.tuple #[])/\w'=w:=by
 have C1:=Zhy A cap v w;go_enter Tryz.func130,Tryz.ntmps130
 go_wp2_with (go_at_call 153;refine C1.mono ?_;rintro e W1 ⟨rfl,rfl⟩;clear C1)
 go_end0
 exact⟨rfl,rfl⟩
theorem Zc6{α:Type}[Inhabited α](enc:α->List Value)(hk:∀ x,(enc x).length=5)(h1:∀ x,∀ v∈enc x,v.oneCell'=true)(cf:α->α->Int)(tag:α->Nat)(B T n g:Nat)(v:Value)(ds:List α)(w:World)(h:w.ownsRow B T 5 v n (ds.flatMap enc))(hn:ds.length=n)
  (eg:∀ args w,(callFunc g args).run Tryz.prog w = .ok (.enter g args) w) (hcmp:∀ (x y:α) (w:World),Calls Tryz.prog g #[.agg (enc x).toArray,.agg (enc y).toArray] w fun e w'=>e = .returned (.int .i64 (cf x y))/\∃ q os,w'=grow (w.drewN q) os) (hS:SWO (ltOf cf)) (hsz:n<1152921504606846976) (ht:∀ i (hi:i<ds.length),tag ds[i]=i) :
  Calls Tryz.prog 130 #[v,.func (.func g) #[] #[]] w fun e w'=>e = .returned (.tuple #[])/\w'.ownsRow B T 5 v n ((Z2 (ltOf cf) ds).flatMap enc)/\Fr (fun j=>v.ownBlock=some j) w w':=by
 rcases id h with ⟨hl,⟨rfl,rfl⟩|⟨gg,cap,cur,rfl,hb,hc,h2,h3,h4,h5⟩⟩
 ·have:ds=[]:=List.eq_nil_of_length_eq_zero hn;subst this;refine (Zh2 none 0 _ w).mono ?_;rintro e w' ⟨rfl,rfl⟩;exact⟨rfl,h,Fr.refl _ _⟩
 ·have R:=Ke (d:=ds.toArray) h hk h1 rfl (by simp[hn])
  have:=Hy enc w gg 0 cap g #[] cf tag ds.toArray R eg (by
   intro m os dk _ x y
   exact hcmp x y _) hS (by simp[hn];exact hsz) (fun i hi=>by
    have hi':i<ds.length:=by simpa using hi
    rw[getElem!_pos _ i hi]
    simpa using ht i hi')
  rw[show ds.toArray.size=n by simp[hn]]at this;refine this.mono ?_;rintro e w' ⟨rfl,d',e1,e2,hs⟩;refine⟨rfl,?_,(Bv hs).mono (fun j _ q=>by rw[q];rfl)⟩;have:=Gt h hk (e2.trans (by simp[hn])) hs;rw[e1]at this;exact this
end
section
open Go.Shelf Go.RowKit Go.Lib Go.Sort SS DT
theorem La(a b:ByteArray)(w:World):Calls Tryz.prog 92 #[.string a,.string b] w fun e w'=>e = .returned (.int .i64 (Lib.compareBytes a.data.toList b.data.toList))/\w'=w:=Any.strings_Compare laysCompare a b w
structure Els{τ:Type}(d:Ty τ)(kv:τ->Value)(k:Nat)(w:World)(O:Nat->Prop)(xs:List τ)(ds:List (El τ k)):Prop where
 key:ds.map El.key=xs
 rd:∀ x∈ds,d.R w O x.key (x.enc kv)
 tag:∀ i (hi:i<ds.length),ds[i].tag=i
theorem Zgt{τ:Type}{d:Ty τ}{kv:τ->Value}{k:Nat}(hsz:d.sz=k+1)(hd:∀ {w O x cs},d.R w O x cs->∃ rest,cs=kv x::rest){w:World}{O:Nat->Prop}{A:Option Addr}{xs:List τ}(h:d.At w O A xs) :
  ∃ ds:List (El τ k),Els d kv k w O xs ds/\∀ a,A=some a->∀ j u,(ds.flatMap (El.enc kv))[j]? = some u->w.cell? (a.add j)=some u:=by
 have pick:∀ i (hi:i<xs.length),∃ x:El τ k,x.key=xs[i]/\x.tag=i/\d.R w O xs[i] (x.enc kv)/\∀ b o,A=some ⟨b,o,none⟩->∀ j (hj:j<(x.enc kv).length),w.cell? ⟨b,o+i*(k+1)+j,none⟩=some ((x.enc kv)[j]):=by
  intro i hi;rcases h.2 with rfl|⟨b,o,rfl,hb,hl,hc⟩
  ·simp at hi
  ·obtain⟨cs,hr,hcs⟩:=hc i hi;obtain⟨rest,rfl⟩:=hd hr;have hlen:=d.len hr;refine⟨⟨xs[i],rest,by rw[hsz]at hlen;simpa using hlen,fun v hv=>d.one hr v (by simp[hv]),i⟩,rfl,rfl,hr,fun b' o' e j hj=>?_⟩;simp only[Option.some.injEq,Addr.mk.injEq,and_true]at e;obtain⟨rfl,rfl⟩:=e;have:=hcs j hj;rw[hsz]at this;exact this
 let f:Fin xs.length->El τ k:=fun i=>Classical.choose (pick i.1 i.2)
 have hf:∀ i:Fin xs.length,_:=fun i=>Classical.choose_spec (pick i.1 i.2)
 have hlen:(List.ofFn f).length=xs.length:=by simp
 have hget:∀ i (hi:i<(List.ofFn f).length),(List.ofFn f)[i]=f ⟨i,by simpa using hi⟩:=fun i hi=>by simp
 refine⟨List.ofFn f,⟨?_,?_,?_⟩,?_⟩
 ·apply List.ext_getElem
  ·simp
  ·intro i h1 h2;rw[List.getElem_map,hget i (by simpa using h1)];exact (hf ⟨i,h2⟩).1
 ·intro x hx;obtain⟨i,hi,rfl⟩:=List.getElem_of_mem hx;rw[hget i hi];have:=hf ⟨i,by simpa using hi⟩;show d.R w O (f ⟨i,_⟩).key _;rw[show (f ⟨i,by simpa using hi⟩).key=xs[i]'(by simpa using hi) from this.1];exact this.2.2.1
 ·intro i hi;rw[hget i hi];exact (hf ⟨i,by simpa using hi⟩).2.1
 ·intro a ha j u hu;rcases h.2 with e|⟨b,o,e,hb,hl,hc⟩
  ·subst e;simp at hu
  ·rw[ha]at e;injection e with e
   subst e
   have hflat:∀ (l:List (El τ k)) (j:Nat) (u:Value),(l.flatMap (El.enc kv))[j]? = some u->∃ (i:Nat) (hi:i<l.length) (q:Nat) (hq:q<(l[i].enc kv).length),j=i*(k+1)+q/\(l[i].enc kv)[q]=u:=by
    intro l
    induction l with
    | nil=>intro j u hu;simp at hu
    | cons x l ih =>
     intro j u hu;rw[List.flatMap_cons]at hu;rcases Nat.lt_or_ge j (x.enc kv).length with q|q
     ·rw[List.getElem?_append_left q,List.getElem?_eq_getElem q]at hu;exact⟨0,by simp,j,by simpa using q,by simp,by simpa using hu⟩
     ·rw[List.getElem?_append_right q]at hu;obtain⟨i,hi,p,hp,e1,e2⟩:=ih _ _ hu;rw[El.enc_len]at e1 q;exact⟨i+1,by simpa using hi,p,by simpa using hp,by rw[Nat.add_mul,Nat.one_mul];omega,by simpa using e2⟩
   obtain⟨i,hi,q,hq,rfl,rfl⟩:=hflat _ _ _ hu;have hi':i<xs.length:=by simpa using hi
   have:=(hf ⟨i,hi'⟩).2.2.2 b o ha q (by rw[El.enc_len]at hq⊢;exact hq);rw[Addr.add_lit];have e:o+(i*(k+1)+q)=o+i*(k+1)+q:=by omega
   rw[e,this];simp only[hget i hi];rfl
theorem Zb4{τ:Type}{d:Ty τ}{kv:τ->Value}{k:Nat}{w:World}{O:Nat->Prop}{xs:List τ}{ds:List (El τ k)}(h:Els d kv k w O xs ds):ds.length=xs.length:=by rw[<- h.key,List.length_map]
theorem K9{τ:Type}{kv:τ->Value}{k:Nat}(ds:List (El τ k)):(ds.flatMap (El.enc kv)).length=ds.length*(k+1):=by
 induction ds with
 | nil=>simp
 | cons x l ih=>rw[List.flatMap_cons,List.length_append,ih,El.enc_len,List.length_cons,Nat.add_mul,Nat.one_mul];omega
def Vc(a b:ByteArray):Bool:=decide (Lib.compareBytes a.data.toList b.data.toList<0)
def Vl(a b:GWord):Bool:=Vc a.surface b.surface
def Pe(a b:GUnk):Bool:=decide (a.cls<b.cls)
def Wu(a b:GRec):Bool:=Vc a.text b.text
theorem Zat:∀ a b:List UInt8,(Lib.compareBytes a b<0) ↔ a<b
 | [],[]=>by simp[Lib.compareBytes]
 | [],_::_=>by simp[Lib.compareBytes]
 | _::_,[]=>by simp[Lib.compareBytes]
 | a::l,b::m=>by
  rw[List.cons_lt_cons_iff];unfold Lib.compareBytes
  split
  next h=>exact⟨fun _=>.inl h,fun _=>by decide⟩
  next h =>
   split
   next h2 =>
    refine⟨fun q=>absurd q (by decide),fun q=>?_⟩;rcases q with q|⟨q,_⟩
    ·exact absurd q h
    ·subst q;exact absurd h2 h
   next h2 =>
    have e:a=b:=by
     have h3:¬ a.toNat<b.toNat:=h;have h4:¬ b.toNat<a.toNat:=h2;exact UInt8.toNat_inj.1 (by omega)
    rw[Zat l m];exact⟨fun q=>.inr ⟨e,q⟩,fun q=>by rcases q with q|⟨_,q⟩;exact absurd q h;exact q⟩
theorem Xh(a b:ByteArray):Vc a b=true ↔ a.data.toList<b.data.toList:=by
 unfold Vc;rw[decide_eq_true_iff,Zat]
theorem bytesLt_swo:SWO Vc where
 irrefl x:=by
  cases h:Vc x x with
  | false=>rfl
  | true=>exact absurd ((Xh _ _).1 h) (List.lt_irrefl _)
 trans x y z h1 h2:=(Xh _ _).2 (List.lt_trans ((Xh _ _).1 h1) ((Xh _ _).1 h2))
 ntrans x y z h1 h2:=by
  have n1:¬ x.data.toList<y.data.toList:=fun q=>by rw[(Xh _ _).2 q]at h1;cases h1
  have n2:¬ y.data.toList<z.data.toList:=fun q=>by rw[(Xh _ _).2 q]at h2;cases h2
  cases h:Vc x z with
  | false=>rfl
  | true=>exact absurd ((Xh _ _).1 h) (List.not_lt.2 (List.le_trans (List.not_lt.1 n2) (List.not_lt.1 n1)))
theorem Q2{α β:Type}{lt:β->β->Bool}(h:SWO lt)(f:α->β):SWO (fun x y=>lt (f x) (f y)):=⟨fun _=>h.irrefl _,fun _ _ _=>h.trans _ _ _,fun _ _ _=>h.ntrans _ _ _⟩
theorem Lv:SWO Vl:=Q2 bytesLt_swo GWord.surface
theorem Id:SWO Wu:=Q2 bytesLt_swo GRec.text
theorem Zcl:SWO Pe:=⟨fun x=>by simp[Pe],fun x y z h1 h2=>by simp only[Pe,decide_eq_true_eq] at *;omega,fun x y z h1 h2=>by simp only[Pe,decide_eq_false_iff_not] at *;omega⟩
theorem Zki{l:List Value}(h:l.length=5):∃ a b c d e,l=[a,b,c,d,e]:=by
 rcases l with _|⟨a,_|⟨b,_|⟨c,_|⟨d,_|⟨e,_|⟨f,r⟩⟩⟩⟩⟩⟩ <;> first|exact⟨_,_,_,_,_,rfl⟩|(exfalso;simp only[List.length_cons,List.length_nil]at h;omega)
theorem four{l:List Value}(h:l.length=4):∃ a b c d,l=[a,b,c,d]:=by
 rcases l with _|⟨a,_|⟨b,_|⟨c,_|⟨d,_|⟨f,r⟩⟩⟩⟩⟩ <;> first|exact⟨_,_,_,_,rfl⟩|(exfalso;simp only[List.length_cons,List.length_nil]at h;omega)
theorem three{l:List Value}(h:l.length=3):∃ a b c,l=[a,b,c]:=by
 rcases l with _|⟨a,_|⟨b,_|⟨c,_|⟨f,r⟩⟩⟩⟩ <;> first|exact⟨_,_,_,rfl⟩|(exfalso;simp only[List.length_cons,List.length_nil]at h;omega)
abbrev Tn(g:GWord):Value:=.string g.surface
abbrev M4(g:GRec):Value:=.string g.text
abbrev Uh:={u:GUnk // 0<=u.cls/\u.cls<=1000}
instance:Inhabited Uh:=⟨⟨default,by decide⟩⟩
abbrev M3(g:Uh):Value:=.int .i64 g.1.cls
def tUnkB:Ty Uh:=DT.Ty.iso tUnk (·.1)
theorem Hj(x y:El GWord 5)(w:World):Calls Tryz.prog 91 #[.agg (x.enc Tn).toArray,.agg (y.enc Tn).toArray] w fun e w'=>e = .returned (.int .i64 (Lib.compareBytes x.key.surface.data.toList y.key.surface.data.toList))/\∃ q os,w'=grow (w.drewN q) os:=by
 obtain⟨kx,rx,hx,_,_⟩:=x;obtain⟨ky,ry,hy,_,_⟩:=y;obtain⟨a1,a2,a3,a4,a5,rfl⟩:=Zki hx;obtain⟨b1,b2,b3,b4,b5,rfl⟩:=Zki hy;show Calls _ _ #[.agg #[.string kx.surface,a1,a2,a3,a4,a5],.agg #[.string ky.surface,b1,b2,b3,b4,b5]] _ _;simp only;generalize kx.surface=a;generalize ky.surface=b;go_enter Tryz.func91,Tryz.ntmps91
 go_wp2_with (first|(go_at_call 92;refine (La a b _).mono ?_;rintro e w1 ⟨rfl,rfl⟩)|fail)
 first|go_ret|go_ret2
 exact⟨rfl,0,_,by rw[alloc_eq_grow,alloc_eq_grow,grow_grow];rfl⟩
theorem E3(x y:El GRec 3)(w:World):Calls Tryz.prog 100 #[.agg (x.enc M4).toArray,.agg (y.enc M4).toArray] w fun e w'=>e = .returned (.int .i64 (Lib.compareBytes x.key.text.data.toList y.key.text.data.toList))/\∃ q os,w'=grow (w.drewN q) os:=by
 obtain⟨kx,rx,hx,_,_⟩:=x;obtain⟨ky,ry,hy,_,_⟩:=y;obtain⟨a1,a2,a3,rfl⟩:=three hx;obtain⟨b1,b2,b3,rfl⟩:=three hy;show Calls _ _ #[.agg #[.string kx.text,a1,a2,a3],.agg #[.string ky.text,b1,b2,b3]] _ _;simp only;generalize kx.text=a;generalize ky.text=b;go_enter Tryz.func100,Tryz.ntmps100
 go_wp2_with (first|(go_at_call 92;refine (La a b _).mono ?_;rintro e w1 ⟨rfl,rfl⟩)|fail)
 first|go_ret|go_ret2
 exact⟨rfl,0,_,by rw[alloc_eq_grow,alloc_eq_grow,grow_grow];rfl⟩
theorem Eb(x y:El Uh 4)(w:World):Calls Tryz.prog 131 #[.agg (x.enc M3).toArray,.agg (y.enc M3).toArray] w fun e w'=>e = .returned (.int .i64 (x.key.1.cls-y.key.1.cls))/\∃ q os,w'=grow (w.drewN q) os:=by
 obtain⟨⟨kx,px1,px2⟩,rx,hx,_,_⟩:=x;obtain⟨⟨ky,py1,py2⟩,ry,hy,_,_⟩:=y;obtain⟨a1,a2,a3,a4,rfl⟩:=four hx;obtain⟨b1,b2,b3,b4,rfl⟩:=four hy;show Calls _ _ #[.agg #[.int .i64 kx.cls,a1,a2,a3,a4],.agg #[.int .i64 ky.cls,b1,b2,b3,b4]] _ _;simp only;generalize kx.cls=a at px1 px2⊢;generalize ky.cls=b at py1 py2⊢;go_enter Tryz.func131,Tryz.ntmps131
 go_wp2_with fail
 first|go_ret|go_ret2
 exact⟨rfl,0,_,by rw[alloc_eq_grow,alloc_eq_grow,grow_grow];rfl⟩
theorem P3{τ:Type}[Inhabited τ]{d:Ty τ}{kv:τ->Value}{k:Nat}{w:World}{O:Nat->Prop}{xs:List τ}{ds:List (El τ k)}(h:Els d kv k w O xs ds)(lt:τ->τ->Bool) :
  (Z2 (fun x y:El τ k=>lt x.key y.key) ds).map El.key=Z2 lt xs/\∀ x∈Z2 (fun x y:El τ k=>lt x.key y.key) ds,d.R w O x.key (x.enc kv):=by
 refine⟨?_,fun x hx=>h.rd x ((Zw _ _).mem_iff.1 hx)⟩;rw[<- h.key];exact N2 lt El.key ds
theorem Bx(B T n:Nat)(v:Value)(ds:List (El GWord 5))(w:World)(h:w.ownsRow B T 6 v n (ds.flatMap (El.enc Tn)))(hn:ds.length=n)(hsz:n<1152921504606846976)(ht:∀ i (hi:i<ds.length),ds[i].tag=i) :
  Calls Tryz.prog 90 #[v,.func (.func 91) #[] #[]] w fun e w'=>e = .returned (.tuple #[])/\w'.ownsRow B T 6 v n ((Z2 (fun x y:El GWord 5=>Vl x.key y.key) ds).flatMap (El.enc Tn))/\Fr (fun j=>v.ownBlock=some j) w w' :=
 Zc5 (El.enc Tn) (El.enc_len _) (El.enc_one (fun _=>rfl)) (fun x y:El GWord 5=>Lib.compareBytes x.key.surface.data.toList y.key.surface.data.toList) El.tag B T n _ v ds w h hn (fun _ _=>by kernel_rfl) (fun x y w=>Hj x y w) (Q2 Lv El.key) hsz ht
def Tm(a b:Uh):Bool:=Pe a.1 b.1
theorem sub_lt(a b:Int):decide (a-b<0)=decide (a<b):=by
 by_cases h:a<b
 ·rw[decide_eq_true h,decide_eq_true (by omega)]
 ·rw[decide_eq_false h,decide_eq_false (by omega)]
theorem Zc2(B T n:Nat)(v:Value)(ds:List (El Uh 4))(w:World)(h:w.ownsRow B T 5 v n (ds.flatMap (El.enc M3)))(hn:ds.length=n)(hsz:n<1152921504606846976)(ht:∀ i (hi:i<ds.length),ds[i].tag=i) :
  Calls Tryz.prog 130 #[v,.func (.func 131) #[] #[]] w fun e w'=>e = .returned (.tuple #[])/\w'.ownsRow B T 5 v n ((Z2 (fun x y:El Uh 4=>Tm x.key y.key) ds).flatMap (El.enc M3))/\Fr (fun j=>v.ownBlock=some j) w w':=by
 have e:(fun x y:El Uh 4=>Tm x.key y.key)=ltOf (fun x y:El Uh 4=>x.key.1.cls-y.key.1.cls):=by
  funext x y;exact (sub_lt _ _).symm
 rw[e];exact Zc6 (El.enc M3) (El.enc_len _) (El.enc_one (fun _=>rfl)) (fun x y:El Uh 4=>x.key.1.cls-y.key.1.cls) El.tag B T n _ v ds w h hn (fun _ _=>by kernel_rfl) (fun x y w=>Eb x y w) (by rw[<- e];exact Q2 (Q2 Zcl Subtype.val) El.key) hsz ht
end
section
open Go.Shelf Go.RowKit Go.Lib Go.Sort SS
structure SPr(P:Program)(k:Nat):Prop where
 mixed:P.follows .mixedOrders=true
 t0:P.underlying 0=some (.tuple #[])
 a0:∀ w,(isAgg 0).run P w = .ok false w
 z0:∀ w,(Go.sizeOf 0).run P w = .ok 1 w
 v0:∀ w,(zeroValue 0).run P w = .ok (.tuple #[]) w
 t3:P.underlying 3=some (.int .i64)
 a3:∀ w,(isAgg 3).run P w = .ok false w
 z3:∀ w,(Go.sizeOf 3).run P w = .ok 1 w
 v3:∀ w,(zeroValue 3).run P w = .ok (.int .i64 0) w
 t4:P.underlying 4=some .bool
 a4:∀ w,(isAgg 4).run P w = .ok false w
 z4:∀ w,(Go.sizeOf 4).run P w = .ok 1 w
 v4:∀ w,(zeroValue 4).run P w = .ok (.bool false) w
 t246:P.underlying 246=some (.int .u64)
 a246:∀ w,(isAgg 246).run P w = .ok false w
 z246:∀ w,(Go.sizeOf 246).run P w = .ok 1 w
 v246:∀ w,(zeroValue 246).run P w = .ok (.int .u64 0) w
 tS:P.underlying 119=some (.slice 216)
 aS:∀ w,(isAgg 119).run P w = .ok false w
 zS:∀ w,(Go.sizeOf 119).run P w = .ok 1 w
 vS:∀ w,(zeroValue 119).run P w = .ok (.slice none 0 0) w
 tF:P.underlying 218=some (.func #[216,216] #[3] false)
 aF:∀ w,(isAgg 218).run P w = .ok false w
 zF:∀ w,(Go.sizeOf 218).run P w = .ok 1 w
 vF:∀ w,(zeroValue 218).run P w = .ok .nilFunc w
 aE:∀ w,(isAgg 216).run P w = .ok true w
 zE:∀ w,(Go.sizeOf 216).run P w = .ok k w
theorem sp_r:SPr Tryz.prog 4:=by
 constructor <;> first|kernel_rfl|(intro w;kernel_rfl)
theorem Hu{P:Program}{k:Nat}(L:SPr P k)(F:P.funcs[202]? = some Tryz.f202){α:Type}[Inhabited α](enc:α->List Value)(w0 W:World)(blk off cap a b n:Nat)(d0 dk:Array α)(R:RowK enc k w0 blk off d0)(hs:dk.size=d0.size)(h:SWK enc k w0 blk off dk W)
  (hab:a+n<=b) (hb:b+n<=dk.size) (hsz:dk.size<4611686018427387904) (v:Value) :
  Calls P 202 #[.slice (some ⟨blk,off,none⟩) dk.size cap,.int .i64 a,.int .i64 b,.int .i64 n,v] W fun e w'=>e = .returned (.tuple #[])/\∃ d',SwR dk a b n d'/\SWK enc k w0 blk off d' w':=by
 have mixed:=L.mixed;have t0:=L.t0;have a0:=L.a0;have z0:=L.z0;have v0:=L.v0;have t3:=L.t3;have a3:=L.a3;have z3:=L.z3;have v3:=L.v3;have t4:=L.t4;have a4:=L.a4;have z4:=L.z4;have v4:=L.v4;have t246:=L.t246;have a246:=L.a246;have z246:=L.z246;have v246:=L.v246;have tS:=L.tS;have aS:=L.aS;have zS:=L.zS;have vS:=L.vS;have tF:=L.tF;have aF:=L.aF;have zF:=L.zF;have vF:=L.vF;have aE:=L.aE;have zE:=L.zE;have uS:=run_underlying L.tS;have RR:Aside _:=R;have HH:Aside _:=h;have HS:=Lib.hid hs;clear R h hs L;go_enter F,Tryz.ntmps202
 go_wp2
 go_loopg [10] n (fun g1 vi wr=>∃ (i:Nat) (di:Array α),vi = .int .i64 i/\i<=n/\n<=i+g1/\Hid (SwR dk a b i di)/\Hid (SWK enc k w0 blk off di wr))
 case atStart=>exact⟨0,dk,rfl,Nat.zero_le _,by omega,SwR.zero _ _ _,HH.out⟩
 case round =>
  obtain⟨i,di,rfl,hi,hg,HR,HW⟩:=hrel;by_cases hlt:i<n
  ·have hltz:(i:Int)<(n:Int):=by omega
   have hsd:di.size=dk.size:=HR.out.1;have hs0:di.size=d0.size:=hsd.trans HS;have x1:a+i<di.size:=by omega
   have x2:b+i<di.size:=by omega
   obtain⟨ex,hex⟩:∃ c,enc di[a+i]! = c:=⟨_,rfl⟩;obtain⟨ey,hey⟩:∃ c,enc di[b+i]! = c:=⟨_,rfl⟩;have l1:=HW.out.ld1 RR.out hs0 P (b+i) x2;have l2:=HW.out.ld1 RR.out hs0 P (a+i) x1;have s1:=HW.out.st1 RR.out hs0 P (a+i) x1 di[b+i]!;have s2:=HW.out.st2 RR.out hs0 P (a+i) (b+i) x1 x2 di[b+i]! di[a+i]!;have HN:=Lib.hid (HW.out.swapped RR.out (a+i) (b+i) x1 x2);have y1:ex.length=k:=by rw[<- hex];exact RR.out.hk _
   have y2:ey.length=k:=by rw[<- hey];exact RR.out.hk _
   rw[hex]at l2 s2;rw[hey]at l1 s1 s2;have CC:=Lib.hid (And.intro hex hey);have z1:(a:Int)+i<dk.size:=by omega
   have z2:(b:Int)+i<dk.size:=by omega
   clear hex hey hs0;go_wp2_with fail
   go_big_region_o
   all_goals go_wp2
   go_roundg (n-(i+1))
   case measure=>omega
   case rel=>exact⟨i+1,swp di (a+i) (b+i),by go_num,by omega,by omega,HR.out.step (by omega) (by omega),by rw[CC.1,CC.2]at HN;exact HN⟩
  ·have hltz:¬ (i:Int)<(n:Int):=by omega
   go_wp2
   go_end0
   have e:i=n:=by omega
   subst e;exact⟨rfl,di,HR.out,HW.out⟩
end
section
open Go.Shelf Go.RowKit Go.Lib Go.Sort SS
theorem Eq{α:Type}[Inhabited α](enc:α->List Value)(w0 W:World)(blk off cap a b n sz:Nat)(d0 dk:Array α)(R:RowK enc 4 w0 blk off d0)(hs:dk.size=d0.size)(h:SWK enc 4 w0 blk off dk W)
  (hz:sz=dk.size) (hab:a+n<=b) (hb:b+n<=dk.size) (hsz:dk.size<4611686018427387904) (v:Value) :
  Calls Tryz.prog 202 #[.slice (some ⟨blk,off,none⟩) sz cap,.int .i64 a,.int .i64 b,.int .i64 n,v] W fun e w'=>e = .returned (.tuple #[])/\∃ d',SwR dk a b n d'/\SWK enc 4 w0 blk off d' w':=by
 subst hz;exact Hu sp_r Tryz.func202 enc w0 W blk off cap a b n d0 dk R hs h hab hb hsz v
theorem Zfc{α:Type}[Inhabited α](enc:α->List Value)(w0 W:World)(blk off cap a m b sz:Nat)(d0 dk:Array α)(R:RowK enc 4 w0 blk off d0)(hs:dk.size=d0.size)(h:SWK enc 4 w0 blk off dk W)
  (hz:sz=dk.size) (ham:a<m) (hmb:m<b) (hb:b<=dk.size) (hsz:dk.size<4611686018427387904) (v:Value) :
  Calls Tryz.prog 174 #[.slice (some ⟨blk,off,none⟩) sz cap,.int .i64 a,.int .i64 m,.int .i64 b,v] W fun e w'=>e = .returned (.tuple #[])/\∃ d',Wz dk a m b d'/\SWK enc 4 w0 blk off d' w':=by
 have RR:Aside _:=R;have HH:Aside _:=h;have HS:=Lib.hid hs;have HZ:=Lib.hid hz;clear R h hs hz;go_enter Tryz.func174,Tryz.ntmps174
 go_wp2
 go_loopg [10,11] (b-a) (fun g1 vi vj wr=>∃ (i j:Nat) (di:Array α),vi = .int .i64 i/\vj = .int .i64 j/\0<i/\0<j/\i<=m-a/\j<=b-m/\i+j<=g1/\Hid (Pd dk a m b i j di)/\Hid (SWK enc 4 w0 blk off di wr))
 case atStart=>exact⟨m-a,b-m,dk,by go_num,by go_num,by omega,by omega,Nat.le_refl _,Nat.le_refl _,by omega,Pd.start dk (by omega) (by omega),HH.out⟩
 case round =>
  obtain⟨i,j,di,rfl,rfl,hi,hj,hi2,hj2,hg,HR,HW⟩:=hrel;have hsd:di.size=dk.size:=HR.out.1;have HSD:=Lib.hid hsd;have HZD:=Lib.hid (HZ.out.trans hsd.symm)
  have CALL:∀ (W:World) (x y n:Nat) (xi yi ni:Int),xi=x->yi=y->ni=n->SWK enc 4 w0 blk off di W->x+n<=y->y+n<=dk.size ->
    Calls Tryz.prog 202 #[.slice (some ⟨blk,off,none⟩) sz cap,.int .i64 xi,.int .i64 yi,.int .i64 ni,v] W fun e w'=>e = .returned (.tuple #[])/\∃ d',SwR di x y n d'/\SWK enc 4 w0 blk off d' w':=by
   rintro W x y n _ _ _ rfl rfl rfl h1 h2 h3;exact Eq enc w0 W blk off cap x y n sz d0 di RR.out (HSD.trans HS) h1 HZD h2 (by have:=HSD.out;omega) (by have:=HSD.out;omega) v
  clear hsd;by_cases he:i=j
  ·subst he;have C1:=CALL wr (m-i) m i (m-i) m i (by omega) rfl rfl HW.out (by omega) (by omega);clear CALL;go_wp2_with (go_at_call 202;refine C1.mono ?_;rintro e W1 ⟨rfl,d',h1,h2⟩)
   go_end0
   exact⟨rfl,d',HR.out.done (by omega) (by omega) h1,h2⟩
  ·have hez:¬ (i:Int)=(j:Int):=by omega
   have hez2:((i:Int)==(j:Int))=false:=by simpa using hez
   by_cases hgt:j<i
   ·have hgtz:(j:Int)<(i:Int):=by omega
    have C1:=CALL wr (m-i) m j (m-i) m j (by omega) rfl rfl HW.out (by omega) (by omega);clear CALL;go_wp2_with (go_at_call 202;refine C1.mono ?_;rintro e W1 ⟨rfl,d',h1,h2⟩;clear C1)
    go_roundg i
    case measure=>omega
    case rel=>exact⟨i-j,j,d',by go_num,rfl,by omega,by omega,by omega,by omega,by omega,HR.out.left (by omega) (by omega) hgt h1,h2⟩
   ·have hgtz:¬ (j:Int)<(i:Int):=by omega
    have C1:=CALL wr (m-i) (m+j-i) i (m-i) (m+j-i) i (by omega) (by omega) rfl HW.out (by omega) (by omega);clear CALL;go_wp2_with (go_at_call 202;refine C1.mono ?_;rintro e W1 ⟨rfl,d',h1,h2⟩;clear C1)
    go_roundg j
    case measure=>omega
    case rel=>exact⟨i,j-i,d',rfl,by go_num,by omega,by omega,by omega,by omega,by omega,HR.out.right (by omega) (by omega) (by omega) h1,h2⟩
end
end Go.Proofs.YtoliamijgmifkaaGreatDoor
