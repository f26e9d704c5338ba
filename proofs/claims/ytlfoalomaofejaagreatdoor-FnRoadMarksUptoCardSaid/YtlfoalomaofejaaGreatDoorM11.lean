/- seekAndMark: a place for a nod -/
import Derived.Test.YtlfoalomaofejaaGreatDoorM10
import Derived.ScopeJumps
import Derived.WalkMore
import Derived.Deep.CutRange
set_option linter.all false
set_option maxRecDepth 100000
set_option maxHeartbeats 4000000
namespace Go.Proofs.YtlfoalomaofejaaGreatDoor
open Go.RowKit TR
def Zkx(q:World)(A g0 z p:Nat)(I G:F)(U:Nat->Prop)(T h:Nat)(f:Nat)(wr:World):Prop :=
 ∃ g n B C,DA wr A g n B C/\FreeOk n B C U/\(∀ x,U x->B x=I x/\(x≠0->C x=G x))/\(f=0\/(f<n/\¬ U f))/\f<T/\z<=n/\(n=z\/n<=2*T)/\Fr (two A g0) q wr/\(g=g0\/q.heap.size<=g)/\(p=0->f<=h)
def Bb(h:World)(z g0 q p:Nat)(G A:F)(U:Nat->Prop)(T:Nat)(cs:List UInt8)(b k:Nat)(wr:World):Prop :=
 1<=b/\b<=T/\(∀ c∈cs,¬ U (b+c.toNat))/\∃ g n B C,DA wr z g n B C/\FreeOk n B C (λx=>U x\/∃ c∈cs.take k,x=b+c.toNat)/\B p=(b:Int)/\(∀ c∈cs.take k,C (b+c.toNat)=(p:Int)) /\
  (∀ x,U x->(x≠p->B x=G x)/\(x≠0->C x=A x))/\(q<=n/\b<n)/\(n=q\/n<=2*(T+256))/\Fr (two z g0) h wr/\(g=g0\/h.heap.size<=g)
theorem _root_.TR.FreeOk.up_base{n:Nat}{B C:F}{U h:Nat->Prop}(g:FreeOk n B C U)(h1:∀ x,h x->U x)(h2:∀ x,U x->h x){p:Nat}(hp:U p)(v:Int):FreeOk n (up B p v) C h:=by
 obtain rfl:U=h:=funext λx=>propext ⟨h2 x,h1 x⟩
 exact⟨g.pos,g.root,g.lt,g.used,g.nxt,λx z q=>by rw[Yh _ _ (by rintro rfl;exact q hp)];exact g.prv x z q,g.head⟩
theorem Zdp{q:World}{z g0 g:Nat}(h:g=g0\/q.heap.size<=g):∀ j,j<q.heap.size->two z g j->two z g0 j:=by
 rintro j A (e|e)
 ·exact .inl e
 ·rcases h with h|h
  ·exact .inr (e.trans h)
  ·omega
theorem Gx{U:Nat->Prop}{b k:Nat}{cs:List UInt8}{z:UInt8}{A:k<cs.length}(I:Hid (∀ j (h:j<cs.length),j<k->¬ U (b+cs[j].toNat)))(G:Hid (z=cs[k]))(q:Hid (¬ U (b+z.toNat))) :
  Hid (∀ j (h:j<cs.length),j<k+1->¬ U (b+cs[j].toNat)):=by
 show ∀ j (h:j<cs.length),j<k+1->¬ U (b+cs[j].toNat);intro j h J;by_cases e:j=k
 ·subst e;rw[<- G.out];exact q.out
 ·exact I.out j h Om
abbrev Zk0(h:World)(z g0 p:Nat)(G A:F)(U:Nat->Prop)(cs:List UInt8)(b k K:Nat)(q:Nat)(g:Nat)(B C:F)(wr:World):Prop :=
 ¬ (U q\/∃ c∈cs.take k,q=b+c.toNat)/\Few (λx=>U x\/∃ c∈cs.take k,x=b+c.toNat) (K+k)/\(∀ c∈cs,¬ U (b+c.toNat))/\B p=(b:Int)/\(∀ c∈cs.take k,C (b+c.toNat)=(p:Int)) /\
  (∀ x,U x->(x≠p->B x=G x)/\(x≠0->C x=A x))/\Fr (two z g0) h wr/\(g=g0\/h.heap.size<=g)
theorem Zdc{J wr I:World}{G g0 p:Nat}{Z X:F}{U:Nat->Prop}{cs:List UInt8}{b k K q g g6:Nat}{B C Y W:F}(hp:U p)(aa:1<=b)
  (HN:Hid (Zk0 J G g0 p Z X U cs b k K q g B C wr))
  (HR:Hid (wr.heap.size<=g6/\Fr (λj=>j=G) wr I/\∀ x,(U x\/∃ c∈cs.take k,x=b+c.toNat)->Y x=B x/\(x≠0->W x=C x))) :
  Hid (Zk0 J G g0 p Z X U cs b k K q g6 Y W I):=by
 obtain⟨h1,h2,h3,h4,h5,V,M,h8⟩:=HN.out;obtain⟨r1,r2,h⟩:=HR.out;refine⟨h1,h2,h3,((h p (.inl hp)).1).trans h4,λc L=>((h _ (.inr ⟨c,L,rfl⟩)).2 Om).trans (h5 c L),λx z=>⟨λA=>((h x (.inl z)).1).trans ((V x z).1 A),λA=>((h x (.inl z)).2 A).trans ((V x z).2 A)⟩,M.trans r2 (λ_ _ e=>.inl e),.inr (Nt M.size r1)⟩
theorem Ff{W wr w':World}{I g0 J p T:Nat}{B0 C0:F}{U:Nat->Prop}{cs:List UInt8}{b k K g n:Nat}{z:UInt8}{B C:F}(V:k<cs.length)(HK:Hid (z=cs[k]))(m1:1<=b)(m2:b<=T)(M:J<=n/\b<n)(L:n=J\/n<=2*(T+256))
  (hp:U p) (HN:Hid (Zk0 W I g0 p B0 C0 U cs b k K (b+z.toNat) g B C wr))
  (HX:Hid (Fr (two I g) wr w'/\∃ B' C',DA w' I g n B' C'/\Zna n (b+z.toNat) p B C (λx=>U x\/∃ c∈cs.take k,x=b+c.toNat) B' C')) :
  Hid (Bb W I g0 J p B0 C0 U T cs b (k+1) w'):=by
 obtain⟨h1,h2,h3,h4,h5,Y,h7,X⟩:=HN.out;obtain⟨f,B',C',D,t1,t2,t3⟩:=HX.out;have Z:cs.take (k+1)=cs.take k++[z]:=by rw[HK.out,List.take_succ_eq_append_getElem V]
 refine⟨m1,m2,h3,g,n,B',C',D,?_,((t3 p (.inl hp)).1).trans h4,λc q=>?_,λx A=>⟨λG=>((t3 x (.inl A)).1).trans ((Y x A).1 G),λG=>((t3 x (.inl A)).2 G).trans ((Y x A).2 G)⟩,M,L,h7.trans f (Zdp X),X⟩
 ·rw[Z]
  have e:(λx=>U x\/∃ c∈cs.take k++[z],x=b+c.toNat)=(λx=>(U x\/∃ c∈cs.take k,x=b+c.toNat)\/x=b+z.toNat):=by
   funext x;apply propext;constructor
   ·rintro (h|⟨c,q,h⟩)
    ·exact .inl (.inl h)
    ·rcases List.mem_append.1 q with q|q
     ·exact .inl (.inr ⟨c,q,h⟩)
     ·rw[List.mem_singleton.1 q]at h;exact .inr h
   ·rintro ((h|⟨c,q,h⟩)|h)
    ·exact .inl h
    ·exact .inr ⟨c,List.mem_append_left _ q,h⟩
    ·exact .inr ⟨z,List.mem_append_right _ (List.mem_singleton.2 rfl),h⟩
  rw[e];exact t1
 ·rw[Z]at q;rcases List.mem_append.1 q with q|q
  ·exact ((t3 _ (.inr ⟨c,q,rfl⟩)).2 Om).trans (h5 c q)
  ·rw[List.mem_singleton.1 q];exact t2
theorem Jq{P:Program}{a:Act}{w:World}{Q:Exit->Act->World->Prop}{c rest:Code}(l:Nat)(J:Act->World->Prop)(μ:Act->World->Nat)(G:findLabel c l=some (Code.skip.seq rest))
  (first:(∀ a w,J a w->rest.wp P (Exit.jump l J Q) a w)->c.wp P (Exit.jump l J Q) a w)
  (q:∀ a w,J a w->rest.wp P (Exit.jump l (λA w'=>J A w'/\μ A w'<μ a w) Q) a w):(Code.scope c).wp P Q a w :=
 wp_scope_jumps l J μ G (first λa w h=>Code.wp_mono (λe A w' z=>by
  cases e with
  | goto l'=>exact⟨z.1,z.2.1⟩
  | _=>exact z) (q a w h)) λa w h=>wp_seq (wp_skip (q a w h))
def Zn2(h:World)(z g0 q:Nat)(G A:F)(U:Nat->Prop)(T:Nat)(f y:Nat)(wr:World):Prop :=
 ∃ g n B C,DA wr z g n B C/\FreeOk n B C U/\(∀ x,U x->B x=G x/\(x≠0->C x=A x))/\C f = -(y:Int)/\Nxt n U f y/\f<n/\q<=n/\(n=q\/n<=2*T)/\Fr (two z g0) h wr/\(g=g0\/h.heap.size<=g)
theorem Zij(w:World)(dp g n p cb co cc M:Nat)(c0:UInt8)(cs:List UInt8)(B C:F)(U:Nat->Prop)(h:DA w dp g n B C)(gd:FreeOk n B C U)(hn:n<=134217728)(hM:M<=67108864)(hp:U p)
  (a1:∀ i (hi:i<cs.length),w.cell? ⟨cb,co+i,none⟩=some (.int .u8 (cs[i].toNat:Int))) (h0:cs.length<=256) (ad:cs.head? = some c0) (aj:cs.Pairwise (· < ·)) (d6:cb≠dp) (d5:cb≠g)
  (hU:∀ x,U x->x<M) (ae:p=0->B 0=1/\∀ x,U x->x=0) (K:Nat) (hF:Few U K) (hK:K+cs.length+3<=n) :
  Calls Tryz.prog 279 #[.pointer (some ⟨dp,0,none⟩),.int .i64 p,.slice (some ⟨cb,co,none⟩) cs.length cc] w λe w'=>e=.returned (.tuple #[])/\∃ b,Bb w dp g n p B C U (max M 256) cs b cs.length w':=by
 have dk:0<cs.length:=by cases cs with|nil=>simp at ad|cons a l=>simp
 have ai:=a1 0 dk;have e0:cs[0]=c0:=by cases cs with|nil=>simp at ad|cons a l=>simpa using ad
 rw[e0]at ai;simp only[Nat.add_zero]at ai;have d7:c0.toNat<256:=c0.toNat_lt
 have hA:∀ c∈cs,c0.toNat<=c.toNat:=by
  cases cs with
  | nil=>simp
  | cons a l =>
   obtain rfl:a=c0:=by simpa using ad
   intro c hc;rcases List.mem_cons.1 hc with rfl|hc
   ·exact Nl _
   ·exact Nat.le_of_lt (UInt8.lt_iff_toNat_lt.1 ((List.pairwise_cons.1 aj).1 c hc))
 have HA:=Hd hA;clear hA;have hS:¬ two dp g cb:=λe=>e.elim d6 d5
 have HH:=Hd h;have Y:=Hd (Ai1 gd (Ai1 hp (Ai1 a1 (Ai1 ad (Ai1 aj (Ai1 hU (Ai1 ae hF)))))));clear h e0 gd hp a1 ad aj hU ae hF;go_enter Tryz.func279,Tryz.ntmps279
 go_wp2_with fail
 refine Jq 0 (λ(a':Act) (w':World)=>∃ (f:Nat) (fi:Int) (u8 c9 c8 c7 c6 c5 c4 c3 c2 c1 cz cy cx cw cv cu ct cr cq cp cn cm cl cj ci ch cg cf ce cd ca b9 b8 b7 b6 b5 b4 b3 b2 b1 b0 bz bx bw bv bu bt bs bq bo bn bm bl bk bj bi bh bg bf be bd bc bb a8:Value),a' = { tmps:=#[.pointer (some ⟨dp,0,none⟩),.int .i64 p,.slice (some ⟨cb,co,none⟩) cs.length cc,undef,undef,undef,.int .i64 fi,.int .i64 (c0.toNat:Int),u8,undef,c9,c8,undef,undef,undef,.slice (some ⟨cb,co,none⟩) cs.length cc,.pointer (some ⟨cb,co,none⟩),.int .u8 (c0.toNat:Int),.int .i64 (c0.toNat:Int),c7,c6,c5,c4,c3,c2,c1,cz,cy,cx,cw,cv,cu,ct,cr,cq,cp,cn,cm,cl,cj,ci,ch,cg,cf,ce,cd,ca,b9,b8,b7,b6,b5,b4,b3,b2,b1,b0,bz,bx,bw,bv,bu,bt,bs,bq,bo,bn,bm,bl,bk,bj,bi,bh,bg,bf,be,bd,bc,bb,a8,undef,undef,undef,undef,undef,undef,undef,undef,undef,undef,undef,undef,undef,undef,undef,undef,undef,undef,undef,undef,undef,undef,undef,undef,undef,undef,undef,undef,undef,undef,undef,undef,undef,undef],defers:=[] } /\ fi=f/\Zkx w dp g n p B C U (max M 256) c0.toNat f w') (λa' _=>max M 256-(intOf (a'.tmps.getD 6 undef)).toNat) rfl ?_ ?_
 ·intro af;have HP:=Hd af;clear af;go_wp2_with fail
  go_step3
  rename_i Q1 K1 hK1;refine hK1 _ _ (HP.out _ _ ⟨0,0,_,_,_,_,_,_,_,_,_,_,_,_,_,_,_,_,_,_,_,_,_,_,_,_,_,_,_,_,_,_,_,_,_,_,_,_,_,_,_,_,_,_,_,_,_,_,_,_,_,_,_,_,_,_,_,_,_,_,_,_,_,_,_,_,rfl,rfl,g,n,B,C,HH.out,Y.out.1,λx A=>⟨rfl,λ_=>rfl⟩,.inl rfl,Om,Nl _,.inl rfl,Fl _,.inl rfl,λ_=>Nat.zero_le _⟩)
 ·rintro a' w' ⟨f,fi,u8,c9,c8,c7,c6,c5,c4,c3,c2,c1,cz,cy,cx,cw,cv,cu,ct,cr,cq,cp,cn,cm,cl,cj,ci,ch,cg,cf,ce,cd,ca,b9,b8,b7,b6,b5,b4,b3,b2,b1,b0,bz,bx,bw,bv,bu,bt,bs,bq,bo,bn,bm,bl,bk,bj,bi,bh,bg,bf,be,bd,bc,bb,a8,rfl,rfl,HS⟩;have HS:=Hd HS;go_wp2_with fail
  go_loopw [6] (λv wr=>∃ f':Nat,v=.int .i64 f'/\f<=f'/\Hid (Zkx w dp g n p B C U (max M 256) c0.toNat f' wr)) (λv _=>max M 256-(intOf v).toNat)
  case atStart=>exact⟨f,rfl,Nl _,HS⟩
  case round =>
   clear HS;obtain⟨f',rfl,ej,HS⟩:=hrel;obtain⟨g1,n1,B1,C1,D,G,V,dn,ek,dj,di,z,ac,dy⟩:=HS.out;have d1:n1<=268435456:=Om;have ao:0<n1:=by have:=G.pos;omega
   have q0:=D.pc;have q1:=D.c 0 ao;simp only[Nat.zero_mul,Nat.zero_add]at q1;have H2:=Hd (Ai1 D (Ai1 G (Ai1 V (Ai1 z ac))));clear D G V z ac HS;refine wp_block ?_;refine wp_seq_k λK hK=>?_
   go_cut [] from 19 to 79 (λwx=>∃ y:Nat,Hid (Zn2 w dp g n B C U (max M 256) f' y wx))
   case first =>
    by_cases hz:f'=0
    ·subst hz;go_wp2_with fail
     go_quiet (fail)
     go_wp2_with fail
     go_meet
     case rel =>
      obtain⟨D,G,V,z,ac⟩:=H2.out;obtain⟨y,hy,Z⟩:=G.next_first;exact⟨y,g1,n1,B1,C1,D.drewN nq,G,V,hy,Z,ao,dj,di,z.drewN nq,ac⟩
    ·have am:f'<n1/\¬ U f':=dn.resolve_left hz;have q2:=(H2.out.1).c f' am.1;have al:=am.1;have eh:((f':Int)==0)=false:=by simp;omega
     have ed:((f':Int) != 0)=true:=by simp;omega
     have ay:=Hd am.2;clear am dn;by_cases hl:C1 f'=C1 0
     ·have d3:(C1 f'==C1 0)=true:=(by simpa using hl);have HL:=Hd hl;clear hl;go_wp2_with fail
      go_quiet (fail)
      go_wp2_with (go_at_call 291;refine (I8 _ dp g1 n1 B1 C1 U (H2.out.1.drewN nq) H2.out.2.1 d1).mono ?_;rintro e w1 ⟨rfl,A⟩;have HX:=Hd A;clear A)
      go_meet
      case rel =>
       obtain⟨D,G,V,z,ac⟩:=H2.out;obtain⟨g2,B2,C2,I,D2,G2,F2,K2⟩:=HX.out;have hL:=G.last_of al ay.out HL.out;obtain⟨y,hy,Z⟩:=G2.next_grown al ay.out Om G.lt;refine⟨y,g2,2*n1,B2,C2,D2,G2,λx A=>⟨((K2 x A).1).trans (V x A).1,λh0=>((K2 x A).2 h0).trans ((V x A).2 h0)⟩,hy,Z,Om,Om,.inr ?_,(z.drewN nq).trans F2 (λj hj e=>.inl e),.inr (Nt (z.drewN nq).size I)⟩;rcases Nat.lt_or_ge (f'+1) n1 with q|q
       ·have:=Y.out.2.2.2.2.2.1 _ (hL.2.2 (n1-1) Om Om);omega
       ·omega
     ·have d3:(C1 f'==C1 0)=false:=(by simpa using hl);have HL:=Hd hl;clear hl;go_wp2_with fail
      go_quiet (fail)
      go_wp2_with fail
      go_meet
      case rel =>
       obtain⟨D,G,V,z,ac⟩:=H2.out;obtain⟨y,hy,Z⟩:=G.next_more al ay.out HL.out;exact⟨y,g1,n1,B1,C1,D.drewN nq,G,V,hy,Z,al,dj,di,z.drewN nq,ac⟩
   case rest =>
    clear q0 q1 H2;obtain⟨y,HN⟩:=hcut;obtain⟨g2,n2,B2,C2,D,G,V,hy,Z,d4,aw,dh,z,I⟩:=HN;have ec:n2<=268435456:=Om;have q0:=D.pc;have q1:=D.c f' d4;rw[hy]at q1;have db:=Z.2.1;have ei:=Z.1
    have ef:y<=max M 256:=by
     rcases Z.2.2.2 with e|e
     ·omega
     ·have:=Y.out.2.2.2.2.2.1 _ e;omega
    have dv:=Hd z;have H3:=Hd (Ai1 D (Ai1 G (Ai1 V (Ai1 Z (Ai1 z (Ai1 I hy))))));clear D G V Z z I hy;by_cases hb:y<=c0.toNat
    ·go_wp2
     go_roundw
     case rel =>
      obtain⟨D,G,V,Z,z,I,hy⟩:=H3.out;exact⟨y,rfl,Om,g2,n2,B2,C2,D,G,V,.inr ⟨db,Z.2.2.1⟩,Om,aw,dh,z,I,λ_=>hb⟩
     case measure=>simp[intOf];omega
    ·obtain⟨b,rfl⟩:∃ b,y=b+c0.toNat:=⟨y-c0.toNat,Om⟩;have d9:1<=b:=Om;go_wp2_with fail
     go_loop [55] (λv=>∃ k:Nat,k<=cs.length/\v=.int .i64 k/\Hid (∀ j (h:j<cs.length),j<k->¬ U (b+cs[j].toNat))) (λv=>cs.length-(intOf v).toNat)
     case atStart=>exact⟨0,Nat.zero_le _,rfl,λj _ hj=>Om⟩
     case round =>
      obtain⟨k,hk,rfl,HF⟩:=hrel;by_cases ab:k<cs.length
      ·have a6:=(dv.out.cell (Y.out.2.2.1 k ab) hS);have X:cs[k].toNat<256:=cs[k].toNat_lt;obtain⟨W,J⟩:∃ W,W=cs[k]:=⟨_,rfl⟩;rw[<- J]at a6 X;have HK:=Hd J;clear J;by_cases hq:b+W.toNat<n2
       ·have q2:=(H3.out.1).c _ hq;by_cases eb:0<=C2 (b+W.toNat)
        ·go_wp2
         go_step3
         obtain⟨D,G,V,Z,z,I,hy⟩:=H3.out
         have dr:U (b+W.toNat):=by
          by_cases e:U (b+W.toNat)
          ·exact e
          ·have:=(G.free_iff hq Om).2 e;omega
         have eg:=Y.out.2.2.2.2.2.1 _ dr;have ee:c0.toNat<=W.toNat:=HA.out W (by rw[HK.out];exact List.getElem_mem ab)
         have dx:p=0->False:=λh0=>by
          have:=(Y.out.2.2.2.2.2.2.1 h0).2 _ dr;omega
         exact⟨rfl,⟨b+c0.toNat,_,_,_,_,_,_,_,_,_,_,_,_,_,_,_,_,_,_,_,_,_,_,_,_,_,_,_,_,_,_,_,_,_,_,_,_,_,_,_,_,_,_,_,_,_,_,_,_,_,_,_,_,_,_,_,_,_,_,_,_,_,_,_,_,_,rfl,rfl,g2,n2,B2,C2,D,G,V,.inr ⟨db,Z.2.2.1⟩,Om,aw,dh,z,I,λh0=>(dx h0).elim⟩,by simp[intOf];omega⟩
        ·have au:C2 (b+W.toNat)<0:=Om;have dg:¬ U (b+W.toNat):=((H3.out.2.1).free_iff hq Om).1 au;have a7:=Hd dg;clear dg
         go_wp2
         go_round
         case rel =>
          (repeat apply Exists.intro)
          refine⟨?_,rfl,rfl,rfl⟩;exact⟨k+1,Om,by go_num,Gx HF HK a7⟩
         case measure=>simp[intOf];omega
       ·have a7:Hid (¬ U (b+W.toNat)):=λhu=>by have:=(H3.out.2.1).lt _ hu;omega
        go_wp2
        go_round
        case rel =>
         (repeat apply Exists.intro)
         refine⟨?_,rfl,rfl,rfl⟩;exact⟨k+1,Om,by go_num,Gx HF HK a7⟩
        case measure=>simp[intOf];omega
      ·have ah:∀ c∈cs,¬ U (b+c.toNat):=λc hc=>by
        obtain⟨j,hj,rfl⟩:=List.getElem_of_mem hc;exact HF.out j hj Om
       obtain⟨D,G,V,Z,z,I,hy⟩:=H3.out;have d0:=G.lt p Y.out.2.1
       have dq:p=0->b=1:=λh0=>by
        have h1:=dy h0;rcases Z.2.2.2 with e|e
        ·omega
        ·have:=(Y.out.2.2.2.2.2.2.1 h0).2 _ e;omega
       have du:p=0->B2 0=(b:Int):=λh0=>by
        rw[dq h0,(V 0 (h0▸Y.out.2.1)).1,(Y.out.2.2.2.2.2.2.1 h0).1];rfl
       have dt:p≠0->0<=C2 p:=λh0=>G.used p Y.out.2.1 h0
       have HB:=Hd (Ai1 du (Ai1 dt ah));have ds:=Hd z;have HG:=Hd (Ai1 D (Ai1 G (Ai1 V I)));clear du dt ah dq z HF H3 dv D G V I Z hy;go_wp2_with (go_at_call 292;refine (Dh _ dp g2 n2 p b B2 C2 HG.out.1 d0 HB.out.1 HB.out.2.1 Om).mono ?_;rintro e w5 ⟨rfl,A⟩;have HX:=Hd A;clear A)
       go_loopw [86] (λv wr=>∃ k:Nat,k<=cs.length/\v=.int .i64 k/\Hid (Bb w dp g n p B C U (max M 256) cs b k wr)) (λv _=>cs.length-(intOf v).toNat)
       case atStart =>
        obtain⟨F5,D5⟩:=HX.out;refine⟨0,Nat.zero_le _,rfl,d9,Om,HB.out.2.2,g2,n2,_,_,D5,?_,Y7 _ _ _,λc hc=>by simp at hc,λx A=>⟨λh0=>by rw[Yh _ _ h0];exact (HG.out.2.2.1 x A).1,(HG.out.2.2.1 x A).2⟩,⟨aw,Om⟩,?_,?_,HG.out.2.2.2⟩
        ·exact HG.out.2.1.up_base (λx A=>A.elim id (λh=>by obtain⟨c,hc,_⟩:=h;simp at hc)) (λx A=>.inl A) Y.out.2.1 _
        ·omega
        ·exact ds.out.trans F5 (Zdp HG.out.2.2.2)
       case round =>
        obtain⟨k,hk,rfl,HM⟩:=hrel;obtain⟨m1,m2,m3,g5,n5,B5,C5,D,G,mb,mc,V,av,d2,ak,dm⟩:=HM.out;have df:n5<=268435456:=Om;have dz:=G.pos;obtain⟨av,d8⟩:=av;have ap:=G.lt p (.inl Y.out.2.1);have q0:=D.pc;have q1:=D.b p ap;rw[mb]at q1;by_cases ab:k<cs.length
        ·have a6:=(ak.cell (Y.out.2.2.1 k ab) hS);have X:cs[k].toNat<256:=cs[k].toNat_lt;have ax:cs[k]∈cs:=List.getElem_mem ab;have az:=m3 _ ax
         have ar:¬ (U (b+cs[k].toNat)\/∃ c∈cs.take k,b+cs[k].toNat=b+c.toNat):=by
          rintro (h|⟨c,hc,h⟩)
          ·exact az h
          ·obtain⟨j,hj,rfl⟩:=List.getElem_of_mem hc;simp only[List.length_take]at hj;rw[List.getElem_take]at h;have:=UInt8.lt_iff_toNat_lt.1 (List.pairwise_iff_getElem.1 Y.out.2.2.2.2.1 j k Om ab Om);omega
         have aq:Few (λx=>U x\/∃ c∈cs.take k,x=b+c.toNat) (K+k):=by
          obtain⟨L,hL,hm⟩:=Y.out.2.2.2.2.2.2.2;refine⟨L++(cs.take k).map (λc=>b+c.toNat),by simp;omega,λx A=>?_⟩;rcases A with h|⟨c,hc,rfl⟩
          ·exact List.mem_append_left _ (hm x h)
          ·exact List.mem_append_right _ (List.mem_map.2 ⟨c,hc,rfl⟩)
         obtain⟨W,J⟩:∃ W,W=cs[k]:=⟨_,rfl⟩;rw[<- J]at a6 X ar ax az;have HK:=Hd J;have HN:=Hd (Ai1 ar (Ai1 aq (Ai1 m3 (Ai1 mb (Ai1 mc (Ai1 V (Ai1 ak dm)))))));have HD:=Hd (Ai1 D G);clear J ar aq m3 mb mc V ak dm D G az ax;by_cases hq:b+W.toNat<n5
         ·have ag:=HD.out.2.ne_of_few HN.out.2.1 Om hq HN.out.1;have aa:(B5 (b+W.toNat)==C5 (b+W.toNat))=false:=(by simpa using ag);have HE:=Hd aa;clear ag aa;go_wp2_with (go_at_call 293;refine (Ny _ dp g5 n5 _ p B5 C5 _ HD.out.1 HD.out.2 Om hq HN.out.1 ap HE.out).mono ?_;rintro e w6 ⟨rfl,A⟩;have HX:=Hd A;clear A)
          go_roundw
          case rel=>exact⟨k+1,Om,by go_num,Ff ab HK m1 m2 ⟨av,d8⟩ d2 Y.out.2.1 HN HX⟩
          case measure=>simp[intOf];omega
         ·go_wp2_with (first|(go_at_call 291;refine (I8 _ dp g5 n5 B5 C5 _ HD.out.1 HD.out.2 df).mono ?_;rintro e w6 ⟨rfl,A⟩;have HX:=Hd A;clear A))
          obtain⟨g6,B6,C6,dl,D6,G6,F6,K6⟩:=HX.out;have dc:b+W.toNat<2*n5:=Om;have ag:=G6.ne_of_few HN.out.2.1 Om dc HN.out.1;have aa:(B6 (b+W.toNat)==C6 (b+W.toNat))=false:=(by simpa using ag);have HE:=Hd aa;have dw:=Hd (Ai1 D6 G6);have ea:=Hd (Ai1 dl (Ai1 F6 K6));have de:p<2*n5:=Om;clear ag aa D6 G6 dl F6 K6 HX;go_wp2_with (go_at_call 293;refine (Ny _ dp g6 (2*n5) _ p B6 C6 _ dw.out.1 dw.out.2 Om dc HN.out.1 de HE.out).mono ?_;rintro e w7 ⟨rfl,A⟩;have HX:=Hd A;clear A)
          go_roundw
          case rel=>exact⟨k+1,Om,by go_num,Ff ab HK m1 m2 ⟨Om,Om⟩ (.inr Om) Y.out.2.1 (Zdc Y.out.2.1 m1 HN ea) HX⟩
          case measure=>simp[intOf];omega
        ·obtain rfl:k=cs.length:=Om
         go_wp2
         simp only[Exit.jump]
         go_end0
         exact⟨rfl,b,HM.out⟩
end Go.Proofs.YtlfoalomaofejaaGreatDoor
