/- The stable sort (slices.stable -/
import Derived.Test.YtlfoalomaofejaaGreatDoorM8
import Derived.Test.YtlfoalomaofejaaGreatDoorM7
set_option linter.all false
set_option maxRecDepth 100000
set_option maxHeartbeats 4000000
namespace Go.Proofs.YtlfoalomaofejaaGreatDoor
section
open Go.Shelf Go.RowKit Go.Lib Go.Sort SS
theorem Zbz{P:Program}{α:Type}[Inhabited α]{enc:α->List Value}{k:Nat}{z W:World}{blk off g size:Nat}{L:Array Value}{K:α->α->Int}{I:Array α}(V:CmpLays P g L enc k K blk off size z)(h:SWK enc k z blk off I W)(q:blk<z.heap.size)(U:I.size=size):CmpLays P g L enc k K blk off size W:=by
 intro m os J G x y;obtain⟨M,A,e⟩:=h.on q m J os (G.trans U.symm);rw[e];exact V M A J G x y
def Zn8{α:Type}[Inhabited α](P:Program)(enc:α->List Value)(k:Nat)(q:World)(blk off cap sz g:Nat)(J:Array Value)(I:α->α->Int)(G:Array α):Prop :=
 ∀ (W:World) (a b:Nat) (A z:Int) (h:Array α),A=a->z=b->a<=b->b<=h.size->h.size=G.size->SWK enc k q blk off h W ->
  Calls P 168 #[.slice (some ⟨blk,off,none⟩) sz cap,.int .i64 A,.int .i64 z,.func (.func g) #[] J] W λe w'=>e=.returned (.tuple #[])/\SWK enc k q blk off (insertionSort (ltOf I) h a b) w'
theorem Zbe{α:Type}[Inhabited α](enc:α->List Value)(K:World)(blk off cap g:Nat)(L:Array Value)(J:α->α->Int)(G:Array α)(R:RowK enc 5 K blk off G)
  (Z:∀ args w,(callFunc g args).run Tryz.prog w=.ok (.enter g args) w) (q:CmpLays Tryz.prog g L enc 5 J blk off G.size K) (Y:SWO (ltOf J)) (U:G.size<4611686018427387904) :
  Zn8 Tryz.prog enc 5 K blk off cap G.size g L J G:=by
 rintro W a b ai bi M X V A z I h;subst X V;have:=AnyQ.insertionSortCmpFunc layInsu 5 (λw=>sp_u.aE w) (λw=>sp_u.zE w) enc R.hk R.h1 J g L blk off cap a b M W Z (by rw[I];exact Zbz q h R.hblk I) (h.holds R.hblk R.hH I) (h.lt R.hblk) A z Om;rw[I]at this;refine Calls.mono this ?_;rintro e w' ⟨rfl,n,os,rfl⟩;exact⟨rfl,h.on R.hblk n _ os (insertionSort_holds Y M a b A z).1.1⟩
theorem Zex{α:Type}[Inhabited α](enc:α->List Value)(z:World)(blk off cap g:Nat)(I:Array Value)(G:α->α->Int)(tag:α->Nat)(h:Array α)(R:RowK enc 5 z blk off h)
  (K:∀ args w,(callFunc g args).run Tryz.prog w=.ok (.enter g args) w) (q:CmpLays Tryz.prog g I enc 5 G blk off h.size z) (J:SWO (ltOf G)) (A:h.size<4611686018427387904) :
  ∀ N,M5 Tryz.prog enc 5 z blk off cap h.size g I h (Y3 (ltOf G) tag) tag N
 | 0=>by rintro W a m b _ _ _ L rfl rfl rfl U;omega
 | N+1=>Al sp_u Tryz.func169 (λ_ _=>Kr) (λ_ _=>Kr) enc z blk off cap g I G tag h R K q J A
   (by
     rintro W a m b _ _ _ L rfl rfl rfl h1 h2 h3 h4 M
     exact Zio enc z W blk off cap a m b h.size h L R h4 M h4.symm h1 h2 h3 Om _) N (Zex enc z blk off cap g I G tag h R K q J A N)
theorem Zh9{α:Type}[Inhabited α](enc:α->List Value)(Y:World)(blk off cap g:Nat)(cb:Array Value)(K:α->α->Int)(tag:α->Nat)(I:Array α)(R:RowK enc 5 Y blk off I)
  (eg:∀ args w,(callFunc g args).run Tryz.prog w=.ok (.enter g args) w) (V:CmpLays Tryz.prog g cb enc 5 K blk off I.size Y) (hS:SWO (ltOf K)) (af:I.size<1152921504606846976) (ht:∀ i,i<I.size->tag I[i]! = i) :
  Calls Tryz.prog 131 #[.slice (some ⟨blk,off,none⟩) I.size cap,.int .i64 I.size,.func (.func g) #[] cb] Y λe w'=>e=.returned (.tuple #[])/\∃ d',d'.toList=Z6 (ltOf K) I.toList/\d'.size=I.size/\SWK enc 5 Y blk off d' w':=by
 have W:=Zbe enc Y blk off cap g cb K I R eg V hS Om;have aa:=λN=>Zex enc Y blk off cap g cb K tag I R eg V hS Om N
 have HS:Aside _:=hS;have H0:=Hd (SWK.start R.hH);obtain⟨n,hn⟩:∃ n,n=I.size:=⟨_,rfl⟩;rw[<- hn]at af ht W⊢;have aa:Aside (∀ N,M5 Tryz.prog enc 5 Y blk off cap n g cb I (Y3 (ltOf K) tag) tag N):=λN=>by rw[hn];exact aa N
 have W:Aside _:=W;have HT:Aside _:=ht;have J:=Hd hn;clear R V hS ht eg hn;go_enter Tryz.func131,Tryz.ntmps131
 go_wp2_with fail
 go_loopg [7,8] n (λg1 va vb wr=>∃ (t A:Nat) (q:Array α),Hid (A=t*20)/\va=.int .i64 A/\vb=.int .i64 ((A:Int)+20)/\A<=n/\n<=A+g1/\Hid (U5 (Y3 (ltOf K) tag) tag n t I q)/\Hid (SWK enc 5 Y blk off q wr))
 case atStart=>exact⟨0,0,I,rfl,rfl,rfl,Om,Om,U5.start,H0⟩
 case round =>
  obtain⟨t,A,q,z,rfl,rfl,aj,hg,HF,X⟩:=hrel;have G:Hid (q.size=I.size):=HF.out.perm.1;by_cases ah:A+20<=n
  ·have U:(A:Int)+20<=(n:Int):=Om;have L:=W.out wr A (A+20) A ((A:Int)+20) q rfl Om Om (by have:=G.out;have:=J.out;omega) G.out X.out;have M:=Hd (Wq (tag:=tag) HS.out q A (A+20) Om (by have:=G.out;have:=J.out;omega) (by rw[z.out];exact HF.out.tags J HT.out (by have:=z.out;omega)));go_wp2_with (go_at_call 168;refine L.mono ?_;rintro e W1 ⟨rfl,h2⟩;clear L)
   go_roundg (n-(A+20))
   case measure=>omega
   case rel=>exact⟨t+1,A+20,_,by have:=z.out;show _=_;omega,by go_num,by go_num,Om,Om,HF.out.step J HT.out (by have:=z.out;omega) (by rw[<- z.out];exact M),h2⟩
  ·have U:¬ (A:Int)+20<=(n:Int):=Om;have L:=W.out wr A n A n q rfl rfl Om (by have:=G.out;have:=J.out;omega) G.out X.out;have M:=Hd (Wq (tag:=tag) HS.out q A n Om (by have:=G.out;have:=J.out;omega) (by rw[z.out];exact HF.out.tags J HT.out (Nl _)));have L0:Hid (Tq (Y3 (ltOf K) tag) tag n 20 I (insertionSort (ltOf K) q A n)):=HF.out.close J HT.out (by have:=z.out;omega) (by have:=z.out;omega) (by rw[<- z.out];exact M);clear M;generalize insertionSort (ltOf K) q A n=dz at L L0;go_wp2_with (go_at_call 168;refine L.mono ?_;rintro e W1 ⟨rfl,h2⟩;clear L;have H2:=Hd h2;clear h2)
   go_loopg [6] n (λg1 vb wr=>∃ (h:Nat) (q:Array α),vb=.int .i64 h/\20<=h/\n<=h+g1/\h<=n+n+20/\Hid (Tq (Y3 (ltOf K) tag) tag n h I q)/\Hid (SWK enc 5 Y blk off q wr))
   case atStart=>exact⟨20,dz,rfl,Om,Om,Om,L0,H2⟩
   case round =>
    clear G HF X L0 H2;obtain⟨h,q,rfl,ai,hg,al,HL,X⟩:=hrel;by_cases ah:h<n
    ·have U:(h:Int)<(n:Int):=Om;go_wp2_with fail
     go_loopg [7,8] n (λg1 va vb wr=>∃ (k A:Nat) (q:Array α),Hid (A=2*k*h)/\va=.int .i64 A/\vb=.int .i64 ((A:Int)+2*h)/\A<=n/\n<=A+g1/\Hid (L9 (Y3 (ltOf K) tag) tag n h k I q)/\Hid (SWK enc 5 Y blk off q wr))
     case atStart=>exact⟨0,0,q,by show _=_;omega,rfl,by go_num,Om,Om,HL.out.start,X.out⟩
     case round =>
      clear HL X;obtain⟨k,A,q,z,rfl,rfl,ae,ak,HP,X⟩:=hrel;have G:Hid (q.size=I.size):=HP.out.perm.1;have ad:Hid (q.size=n):=G.out.trans J.out.symm;by_cases ab:A+2*h<=n
      ·have ac:(A:Int)+2*h<=(n:Int):=Om;obtain⟨p1,Z⟩:=HP.out.pair J (by rw[<- z.out];exact ab);rw[<- z.out]at p1 Z;have L:=aa.out (2*h+1) wr A (A+h) (A+2*h) A ((A:Int)+h) ((A:Int)+2*h) q rfl Om Om Om Om Om (by have:=ad.out;omega) G.out X.out p1.1 Z.1 (p1.tags Z);clear p1 Z;go_wp2_with (go_at_call 169;refine L.mono ?_;rintro e W1 ⟨rfl,d',h2,h3⟩;clear L;have H2:=Hd h2;have H3:=Hd h3;clear h2 h3)
       go_roundg (n-(A+2*h))
       case measure=>omega
       case rel=>exact⟨k+1,A+2*h,d',by have:=z.out;show _=_;rw[(Om:2*(k+1)=2*k+2),Nat.add_mul,<- this],by go_num,by go_num,Om,Om,HP.out.step J (by rw[<- z.out];exact ab) (by rw[<- z.out];exact H2),H3⟩
      ·have ac:¬ (A:Int)+2*h<=(n:Int):=Om;by_cases hm:A+h<n
       ·have ag:(A:Int)+h<(n:Int):=Om;obtain⟨p1,Z⟩:=HP.out.tail J (by rw[<- z.out];exact hm) (by rw[<- z.out];omega);rw[<- z.out]at p1 Z;have L:=aa.out (2*h+1) wr A (A+h) n A ((A:Int)+h) n q rfl Om rfl Om Om hm (by have:=ad.out;omega) G.out X.out p1.1 Z.1 (p1.tags Z);clear p1 Z;go_wp2_with (go_at_call 169;refine L.mono ?_;rintro e W1 ⟨rfl,d',h2,h3⟩;clear L;have H2:=Hd h2;have H3:=Hd h3;clear h2 h3)
        go_roundg (n-h*2)
        case measure=>omega
        case rel=>exact⟨h*2,d',by go_num,Om,Om,Om,by rw[Nat.mul_comm];exact HP.out.close J (by rw[<- z.out];exact ae) (by rw[<- z.out];omega) (.inr (by rw[<- z.out];exact⟨hm,H2⟩)),H3⟩
       ·have ag:¬ (A:Int)+h<(n:Int):=Om;have L2:Hid (Tq (Y3 (ltOf K) tag) tag n (2*h) I q):=HP.out.close J (by rw[<- z.out];exact ae) (by rw[<- z.out];omega) (.inl ⟨rfl,by rw[<- z.out];omega⟩);go_wp2_with fail
        go_roundg (n-h*2)
        case measure=>omega
        case rel=>exact⟨h*2,q,by go_num,Om,Om,Om,by rw[Nat.mul_comm];exact L2,X⟩
    ·have U:¬ (h:Int)<(n:Int):=Om;go_wp2_with fail
     go_end0
     exact⟨rfl,q,HL.out.stable HS.out J Om (λi hi=>HT.out i hi),by rw[J.out];exact HL.out.perm.1,X.out⟩
theorem Dc{α:Type}[Inhabited α](enc:α->List Value)(z:World)(blk off cap g:Nat)(J:Array Value)(G:α->α->Int)(tag:α->Nat)(h:Array α)(R:RowK enc 5 z blk off h)
  (U:∀ args w,(callFunc g args).run Tryz.prog w=.ok (.enter g args) w) (q:CmpLays Tryz.prog g J enc 5 G blk off h.size z) (M:SWO (ltOf G)) (A:h.size<1152921504606846976) (L:∀ i,i<h.size->tag h[i]! = i) :
  Calls Tryz.prog 98 #[.slice (some ⟨blk,off,none⟩) h.size cap,.func (.func g) #[] J] z λe w'=>e=.returned (.tuple #[])/\∃ I,I.toList=Z6 (ltOf G) h.toList/\I.size=h.size/\SWK enc 5 z blk off I w':=by
 have K:=Zh9 enc z blk off cap g J G tag h R U q M A L;generalize h.size=n at K⊢;clear R q M A L U;go_enter Tryz.func98,Tryz.ntmps98
 go_wp2_with (go_at_call 131;refine K.mono ?_;rintro e V ⟨rfl,h2⟩;clear K)
 go_end0
 exact⟨rfl,h2⟩
end
section
open Go.Shelf Go.RowKit Go.Lib Go.Sort SS
theorem Znn(A:Option Addr)(cap:Nat)(v:Value)(w:World):Calls Tryz.prog 168 #[.slice A 0 cap,.int .i64 0,.int .i64 0,v] w λe w'=>e=.returned (.tuple #[])/\w'=w:=by
 go_enter Tryz.func168,Tryz.ntmps168
 go_wp2_with fail
 go_loopw [8] (λv wr=>v=.int .i64 1/\wr=w) (λ_ _=>0)
 case atStart=>exact⟨rfl,rfl⟩
 case round =>
  obtain⟨rfl,rfl⟩:=hrel;go_wp2_with fail
  go_end0
  exact⟨rfl,rfl⟩
theorem Zlj(A:Option Addr)(cap:Nat)(v:Value)(w:World):Calls Tryz.prog 131 #[.slice A 0 cap,.int .i64 0,v] w λe w'=>e=.returned (.tuple #[])/\w'=w:=by
 go_enter Tryz.func131,Tryz.ntmps131
 go_wp2_with fail
 go_loopw [7,8] (λa b wr=>a=.int .i64 0/\b=.int .i64 20/\wr=w) (λ_ _ _=>0)
 case atStart=>exact⟨rfl,rfl,rfl⟩
 case round =>
  obtain⟨rfl,rfl,rfl⟩:=hrel;have h:=Znn A cap v wr;go_wp2_with (go_at_call 168;refine h.mono ?_;rintro e q ⟨rfl,rfl⟩;clear h)
  go_loopw [6] (λv wr=>v=.int .i64 20/\wr=q) (λ_ _=>0)
  case atStart=>exact⟨rfl,rfl⟩
  case round =>
   obtain⟨rfl,rfl⟩:=hrel;go_wp2_with fail
   go_end0
   exact⟨rfl,rfl⟩
theorem Zln(A:Option Addr)(cap:Nat)(v:Value)(w:World):Calls Tryz.prog 98 #[.slice A 0 cap,v] w λe w'=>e=.returned (.tuple #[])/\w'=w:=by
 have h:=Zlj A cap v w;go_enter Tryz.func98,Tryz.ntmps98
 go_wp2_with (go_at_call 131;refine h.mono ?_;rintro e q ⟨rfl,rfl⟩;clear h)
 go_end0
 exact⟨rfl,rfl⟩
theorem Zgf{α:Type}[Inhabited α](enc:α->List Value)(M:∀ x,(enc x).length=5)(h1:∀ x,∀ v∈enc x,v.oneCell'=true)(I:α->α->Int)(tag:α->Nat)(B T n g:Nat)(v:Value)(z:List α)(w:World)(h:w.ownsRow B T 5 v n (z.flatMap enc))(A:z.length=n)
  (X:∀ args w,(callFunc g args).run Tryz.prog w=.ok (.enter g args) w) (G:∀ (x y:α) (w:World),Calls Tryz.prog g #[.agg (enc x).toArray,.agg (enc y).toArray] w λe w'=>e=.returned (.int .i64 (I x y))/\∃ q os,w'=grow (w.drewN q) os) (V:SWO (ltOf I)) (J:n<1152921504606846976) (U:∀ i (hi:i<z.length),tag z[i]=i) :
  Calls Tryz.prog 98 #[v,.func (.func g) #[] #[]] w λe w'=>e=.returned (.tuple #[])/\w'.ownsRow B T 5 v n ((Z6 (ltOf I) z).flatMap enc)/\Fr (λj=>v.ownBlock=some j) w w':=by
 rcases id h with ⟨hl,⟨rfl,rfl⟩|⟨W,cap,aa,rfl,hb,hc,h2,h3,h4,h5⟩⟩
 ·have:z=[]:=List.eq_nil_of_length_eq_zero A;subst this;refine (Zln none 0 _ w).mono ?_;rintro e w' ⟨rfl,rfl⟩;exact⟨rfl,h,Fl _⟩
 ·have R:=Ib (d:=z.toArray) h M h1 rfl (by simp[A])
  have:=Dc enc w W 0 cap g #[] I tag z.toArray R X (by
   intro m os dk _ x y
   exact G x y _) V (by simp[A];exact J) (λi hi=>by
    have K:i<z.length:=(by simpa using hi);rw[getElem!_pos _ i hi]
    simpa using U i K)
  rw[show z.toArray.size=n by simp[A]]at this;refine this.mono ?_;rintro e w' ⟨rfl,d',Z,Y,L⟩;refine⟨rfl,?_,(Zcp L).mono (λj _ q=>by rw[q];rfl)⟩;have:=Dz h M (Y.trans (by simp[A])) L;rw[Z]at this;exact this
end
section
open Go.Shelf Go.RowKit Go.Lib Go.Sort SS DT
theorem Kx(a b:ByteArray)(w:World):Calls Tryz.prog 181 #[.string a,.string b] w λe w'=>e=.returned (.int .i64 (Lib.compareBytes a.data.toList b.data.toList))/\w'=w:=Any.strings_Compare laysCompare a b w
structure Els{τ:Type}(d:Ty τ)(kv:τ->Value)(k:Nat)(w:World)(O:Nat->Prop)(xs:List τ)(ds:List (El τ k)):Prop where
 key:ds.map El.key=xs
 rd:∀ x∈ds,d.R w O x.key (x.enc kv)
 tag:∀ i (hi:i<ds.length),ds[i].tag=i
theorem Zkd{τ:Type}{d:Ty τ}{kv:τ->Value}{k:Nat}(L:d.sz=k+1)(hd:∀ {w O x cs},d.R w O x cs->∃ rest,cs=kv x::rest){w:World}{O:Nat->Prop}{A:Option Addr}{xs:List τ}(h:d.At w O A xs) :
  ∃ ds:List (El τ k),Els d kv k w O xs ds/\∀ a,A=some a->∀ j u,(ds.flatMap (El.enc kv))[j]?=some u->w.cell? (a.add j)=some u:=by
 have J:∀ i (hi:i<xs.length),∃ x:El τ k,x.key=xs[i]/\x.tag=i/\d.R w O xs[i] (x.enc kv)/\∀ b o,A=some ⟨b,o,none⟩->∀ j (Y:j<(x.enc kv).length),w.cell? ⟨b,o+i*(k+1)+j,none⟩=some ((x.enc kv)[j]):=by
  intro i hi;rcases h.2 with rfl|⟨b,o,rfl,hb,hl,Z⟩
  ·simp at hi
  ·obtain⟨cs,M,X⟩:=Z i hi;obtain⟨rest,rfl⟩:=hd M;have G:=d.len M;refine⟨⟨xs[i],rest,by rw[L]at G;simpa using G,λv hv=>d.one M v (by simp[hv]),i⟩,rfl,rfl,M,λb' o' e j Y=>?_⟩;simp only[Option.some.injEq,Addr.mk.injEq,and_true]at e;obtain⟨rfl,rfl⟩:=e;have:=X j Y;rw[L]at this;exact this
 let f:Fin xs.length->El τ k:=λi=>Classical.choose (J i.1 i.2)
 have U:∀ i:Fin xs.length,_:=λi=>Classical.choose_spec (J i.1 i.2)
 have G:(List.ofFn f).length=xs.length:=by simp
 have z:∀ i (hi:i<(List.ofFn f).length),(List.ofFn f)[i]=f ⟨i,by simpa using hi⟩:=λi hi=>by simp
 refine⟨List.ofFn f,⟨?_,?_,?_⟩,?_⟩
 ·apply List.ext_getElem
  ·simp
  ·intro i h1 h2;rw[List.getElem_map,z i (by simpa using h1)];exact (U ⟨i,h2⟩).1
 ·intro x hx;obtain⟨i,hi,rfl⟩:=List.getElem_of_mem hx;rw[z i hi];have:=U ⟨i,by simpa using hi⟩;show d.R w O (f ⟨i,_⟩).key _;rw[show (f ⟨i,by simpa using hi⟩).key=xs[i]'(by simpa using hi) from this.1];exact this.2.2.1
 ·intro i hi;rw[z i hi];exact (U ⟨i,by simpa using hi⟩).2.1
 ·intro a ha j u I;rcases h.2 with e|⟨b,o,e,hb,hl,Z⟩
  ·subst e;simp at I
  ·rw[ha]at e;injection e with e
   subst e
   have K:∀ (l:List (El τ k)) (j:Nat) (u:Value),(l.flatMap (El.enc kv))[j]?=some u->∃ (i:Nat) (hi:i<l.length) (q:Nat) (V:q<(l[i].enc kv).length),j=i*(k+1)+q/\(l[i].enc kv)[q]=u:=by
    intro l
    induction l with
    | nil=>intro j u I;simp at I
    | cons x l ih =>
     intro j u I;rw[List.flatMap_cons]at I;rcases Nat.lt_or_ge j (x.enc kv).length with q|q
     ·rw[List.getElem?_append_left q,Ge q]at I;exact⟨0,by simp,j,by simpa using q,by simp,by simpa using I⟩
     ·rw[List.getElem?_append_right q]at I;obtain⟨i,hi,p,hp,e1,e2⟩:=ih _ _ I;rw[El.enc_len]at e1 q;exact⟨i+1,by simpa using hi,p,by simpa using hp,by rw[Nat.add_mul,Nat.one_mul];omega,by simpa using e2⟩
   obtain⟨i,hi,q,V,rfl,rfl⟩:=K _ _ _ I;have W:i<xs.length:=(by simpa using hi);have:=(U ⟨i,W⟩).2.2.2 b o ha q (by rw[El.enc_len]at V⊢;exact V);rw[Addr.add_lit];have e:o+(i*(k+1)+q)=o+i*(k+1)+q:=Om;rw[e,this];simp only[z i hi];rfl
theorem Zfe{τ:Type}{d:Ty τ}{kv:τ->Value}{k:Nat}{w:World}{O:Nat->Prop}{xs:List τ}{q:List (El τ k)}(h:Els d kv k w O xs q):q.length=xs.length:=by rw[<- h.key,List.length_map]
theorem Ha{τ:Type}{kv:τ->Value}{k:Nat}(h:List (El τ k)):(h.flatMap (El.enc kv)).length=h.length*(k+1):=by
 induction h with
 | nil=>simp
 | cons x l ih=>rw[List.flatMap_cons,List.length_append,ih,El.enc_len,List.length_cons,Nat.add_mul,Nat.one_mul];omega
def Vr(a b:ByteArray):Bool:=decide (Lib.compareBytes a.data.toList b.data.toList<0)
def V0(a b:GWord):Bool:=Vr a.surface b.surface
def Ok(a b:GUnk):Bool:=decide (a.cls<b.cls)
def Vj(a b:GRec):Bool:=Vr a.text b.text
theorem Zdw:∀ a b:List UInt8,(Lib.compareBytes a b<0)↔a<b
 | [],[]=>by simp[Lib.compareBytes]
 | [],_::_=>by simp[Lib.compareBytes]
 | _::_,[]=>by simp[Lib.compareBytes]
 | a::l,b::m=>by
  rw[List.cons_lt_cons_iff];unfold Lib.compareBytes
  split
  next h=>exact⟨λ_=>.inl h,λ_=>by decide⟩
  next h =>
   split
   next h2 =>
    refine⟨λq=>absurd q (by decide),λq=>?_⟩;rcases q with q|⟨q,_⟩
    ·exact absurd q h
    ·subst q;exact absurd h2 h
   next h2 =>
    have e:a=b:=by
     have h3:¬ a.toNat<b.toNat:=h;have h4:¬ b.toNat<a.toNat:=h2;exact UInt8.toNat_inj.1 Om
    rw[Zdw l m];exact⟨λq=>.inr ⟨e,q⟩,λq=>by rcases q with q|⟨_,q⟩;exact absurd q h;exact q⟩
theorem Xw(a b:ByteArray):Vr a b=true↔a.data.toList<b.data.toList:=by
 unfold Vr;rw[decide_eq_true_iff,Zdw]
theorem bytesLt_swo:SWO Vr where
 irrefl x:=by
  cases h:Vr x x with
  | false=>rfl
  | true=>exact absurd ((Xw _ _).1 h) (List.lt_irrefl _)
 trans x y z h1 h2:=(Xw _ _).2 (List.lt_trans ((Xw _ _).1 h1) ((Xw _ _).1 h2))
 ntrans x y z h1 h2:=by
  have G:¬ x.data.toList<y.data.toList:=λq=>by rw[(Xw _ _).2 q]at h1;cases h1
  have A:¬ y.data.toList<z.data.toList:=λq=>by rw[(Xw _ _).2 q]at h2;cases h2
  cases h:Vr x z with
  | false=>rfl
  | true=>exact absurd ((Xw _ _).1 h) (List.not_lt.2 (List.le_trans (List.not_lt.1 A) (List.not_lt.1 G)))
theorem P5{α β:Type}{lt:β->β->Bool}(h:SWO lt)(f:α->β):SWO (λx y=>lt (f x) (f y)):=⟨λ_=>h.irrefl _,λ_ _ _=>h.trans _ _ _,λ_ _ _=>h.ntrans _ _ _⟩
theorem Jt:SWO V0:=P5 bytesLt_swo GWord.surface
theorem Gz:SWO Vj:=P5 bytesLt_swo GRec.text
theorem Zfw:SWO Ok:=⟨λx=>by simp[Ok],λx y z h1 h2=>by simp only[Ok,decide_eq_true_eq] at *;omega,λx y z h1 h2=>by simp only[Ok,decide_eq_false_iff_not] at *;omega⟩
theorem Zoq{l:List Value}(h:l.length=5):∃ a b c d e,l=[a,b,c,d,e]:=by
 rcases l with _|⟨a,_|⟨b,_|⟨c,_|⟨d,_|⟨e,_|⟨f,r⟩⟩⟩⟩⟩⟩<;>first|exact⟨_,_,_,_,_,rfl⟩|(exfalso;simp only[List.length_cons,List.length_nil]at h;omega)
theorem four{l:List Value}(h:l.length=4):∃ a b c d,l=[a,b,c,d]:=by
 rcases l with _|⟨a,_|⟨b,_|⟨c,_|⟨d,_|⟨f,r⟩⟩⟩⟩⟩<;>first|exact⟨_,_,_,_,rfl⟩|(exfalso;simp only[List.length_cons,List.length_nil]at h;omega)
theorem three{l:List Value}(h:l.length=3):∃ a b c,l=[a,b,c]:=by
 rcases l with _|⟨a,_|⟨b,_|⟨c,_|⟨f,r⟩⟩⟩⟩<;>first|exact⟨_,_,_,rfl⟩|(exfalso;simp only[List.length_cons,List.length_nil]at h;omega)
abbrev T8(g:GWord):Value:=.string g.surface
abbrev Km(g:GRec):Value:=.string g.text
abbrev U3:={u:GUnk // 0<=u.cls/\u.cls<=1000}
instance:Inhabited U3:=⟨⟨default,by decide⟩⟩
abbrev Kl(g:U3):Value:=.int .i64 g.1.cls
def tUnkB:Ty U3:=DT.Ty.iso tUnk (·.1)
theorem Er(x y:El GWord 5)(w:World):Calls Tryz.prog 180 #[.agg (x.enc T8).toArray,.agg (y.enc T8).toArray] w λe w'=>e=.returned (.int .i64 (Lib.compareBytes x.key.surface.data.toList y.key.surface.data.toList))/\∃ q os,w'=grow (w.drewN q) os:=by
 obtain⟨z,X,G,_,_⟩:=x;obtain⟨h,W,A,_,_⟩:=y;obtain⟨U,a2,a3,a4,a5,rfl⟩:=Zoq G;obtain⟨M,L,K,J,I,rfl⟩:=Zoq A;show Calls _ _ #[.agg #[.string z.surface,U,a2,a3,a4,a5],.agg #[.string h.surface,M,L,K,J,I]] _ _;simp only;generalize z.surface=a;generalize h.surface=b;go_enter Tryz.func180,Tryz.ntmps180
 go_wp2_with (first|(go_at_call 181;refine (Kx a b _).mono ?_;rintro e V ⟨rfl,rfl⟩)|fail)
 first|go_ret|go_ret2
 exact⟨rfl,0,_,by rw[alloc_eq_grow,alloc_eq_grow,grow_grow];rfl⟩
theorem Zaj(x y:El GRec 3)(w:World):Calls Tryz.prog 186 #[.agg (x.enc Km).toArray,.agg (y.enc Km).toArray] w λe w'=>e=.returned (.int .i64 (Lib.compareBytes x.key.text.data.toList y.key.text.data.toList))/\∃ q os,w'=grow (w.drewN q) os:=by
 obtain⟨z,V,G,_,_⟩:=x;obtain⟨h,U,A,_,_⟩:=y;obtain⟨L,a2,a3,rfl⟩:=three G;obtain⟨K,J,I,rfl⟩:=three A;show Calls _ _ #[.agg #[.string z.text,L,a2,a3],.agg #[.string h.text,K,J,I]] _ _;simp only;generalize z.text=a;generalize h.text=b;go_enter Tryz.func186,Tryz.ntmps186
 go_wp2_with (first|(go_at_call 181;refine (Kx a b _).mono ?_;rintro e M ⟨rfl,rfl⟩)|fail)
 first|go_ret|go_ret2
 exact⟨rfl,0,_,by rw[alloc_eq_grow,alloc_eq_grow,grow_grow];rfl⟩
theorem Bu(x y:El U3 4)(w:World):Calls Tryz.prog 99 #[.agg (x.enc Kl).toArray,.agg (y.enc Kl).toArray] w λe w'=>e=.returned (.int .i64 (x.key.1.cls-y.key.1.cls))/\∃ q os,w'=grow (w.drewN q) os:=by
 obtain⟨⟨J,G,A⟩,Z,L,_,_⟩:=x;obtain⟨⟨I,z,h⟩,Y,K,_,_⟩:=y;obtain⟨X,a2,a3,a4,rfl⟩:=four L;obtain⟨W,V,U,M,rfl⟩:=four K;show Calls _ _ #[.agg #[.int .i64 J.cls,X,a2,a3,a4],.agg #[.int .i64 I.cls,W,V,U,M]] _ _;simp only;generalize J.cls=a at G A⊢;generalize I.cls=b at z h⊢;go_enter Tryz.func99,Tryz.ntmps99
 go_wp2_with fail
 first|go_ret|go_ret2
 exact⟨rfl,0,_,by rw[alloc_eq_grow,alloc_eq_grow,grow_grow];rfl⟩
theorem Ni{τ:Type}[Inhabited τ]{d:Ty τ}{kv:τ->Value}{k:Nat}{w:World}{O:Nat->Prop}{xs:List τ}{q:List (El τ k)}(h:Els d kv k w O xs q)(lt:τ->τ->Bool) :
  (Z6 (λx y:El τ k=>lt x.key y.key) q).map El.key=Z6 lt xs/\∀ x∈Z6 (λx y:El τ k=>lt x.key y.key) q,d.R w O x.key (x.enc kv):=by
 refine⟨?_,λx z=>h.rd x ((Z0 _ _).mem_iff.1 z)⟩;rw[<- h.key];exact Li lt El.key q
theorem Zcu(B T n:Nat)(v:Value)(q:List (El GWord 5))(w:World)(h:w.ownsRow B T 6 v n (q.flatMap (El.enc T8)))(G:q.length=n)(z:n<1152921504606846976)(A:∀ i (hi:i<q.length),q[i].tag=i) :
  Calls Tryz.prog 179 #[v,.func (.func 180) #[] #[]] w λe w'=>e=.returned (.tuple #[])/\w'.ownsRow B T 6 v n ((Z6 (λx y:El GWord 5=>V0 x.key y.key) q).flatMap (El.enc T8))/\Fr (λj=>v.ownBlock=some j) w w' :=
 Zge (El.enc T8) (El.enc_len _) (El.enc_one (λ_=>rfl)) (λx y:El GWord 5=>Lib.compareBytes x.key.surface.data.toList y.key.surface.data.toList) El.tag B T n _ v q w h G (λ_ _=>Kr) (λx y w=>Er x y w) (P5 Jt El.key) z A
def T7(a b:U3):Bool:=Ok a.1 b.1
theorem sub_lt(a b:Int):decide (a-b<0)=decide (a<b):=by
 by_cases h:a<b
 ·rw[decide_eq_true h,decide_eq_true Om]
 ·rw[decide_eq_false h,decide_eq_false Om]
theorem Zgb(B T n:Nat)(v:Value)(q:List (El U3 4))(w:World)(h:w.ownsRow B T 5 v n (q.flatMap (El.enc Kl)))(G:q.length=n)(z:n<1152921504606846976)(A:∀ i (hi:i<q.length),q[i].tag=i) :
  Calls Tryz.prog 98 #[v,.func (.func 99) #[] #[]] w λe w'=>e=.returned (.tuple #[])/\w'.ownsRow B T 5 v n ((Z6 (λx y:El U3 4=>T7 x.key y.key) q).flatMap (El.enc Kl))/\Fr (λj=>v.ownBlock=some j) w w':=by
 have e:(λx y:El U3 4=>T7 x.key y.key)=ltOf (λx y:El U3 4=>x.key.1.cls-y.key.1.cls):=by
  funext x y;exact (sub_lt _ _).symm
 rw[e];exact Zgf (El.enc Kl) (El.enc_len _) (El.enc_one (λ_=>rfl)) (λx y:El U3 4=>x.key.1.cls-y.key.1.cls) El.tag B T n _ v q w h G (λ_ _=>Kr) (λx y w=>Bu x y w) (by rw[<- e];exact P5 (P5 Zfw Subtype.val) El.key) z A
end
end Go.Proofs.YtlfoalomaofejaaGreatDoor
