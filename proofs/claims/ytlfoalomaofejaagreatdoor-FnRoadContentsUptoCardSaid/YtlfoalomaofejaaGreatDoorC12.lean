/- seekAndMark: a place for a nod -/
import Derived.Test.YtlfoalomaofejaaGreatDoorC11
import Derived.ScopeJumps
import Derived.WalkMore
import Derived.Deep.CutRange
set_option linter.all false
set_option maxRecDepth 100000
set_option maxHeartbeats 4000000
namespace Go.Proofs.YtlfoalomaofejaaGreatDoor
open Go.RowKit TR
def Zjs(w0:World)(dp g0 n0 p:Nat)(B0 C0:F)(U:Nat->Prop)(T rep:Nat)(f:Nat)(wr:World):Prop :=
 ∃ g n B C,DA wr dp g n B C/\FreeOk n B C U/\(∀ x,U x->B x=B0 x/\(x≠0->C x=C0 x))/\(f=0\/(f<n/\¬ U f))/\f<T/\n0<=n/\(n=n0\/n<=2*T)/\Fr (two dp g0) w0 wr/\(g=g0\/w0.heap.size<=g)/\(p=0->f<=rep)
def D7(w0:World)(dp g0 n0 p:Nat)(B0 C0:F)(U:Nat->Prop)(T:Nat)(cs:List UInt8)(b k:Nat)(wr:World):Prop :=
 1<=b/\b<=T/\(∀ c∈cs,¬ U (b+c.toNat))/\∃ g n B C,DA wr dp g n B C/\FreeOk n B C (λx=>U x\/∃ c∈cs.take k,x=b+c.toNat)/\B p=(b:Int)/\(∀ c∈cs.take k,C (b+c.toNat)=(p:Int)) /\
  (∀ x,U x->(x≠p->B x=B0 x)/\(x≠0->C x=C0 x))/\(n0<=n/\b<n)/\(n=n0\/n<=2*(T+256))/\Fr (two dp g0) w0 wr/\(g=g0\/w0.heap.size<=g)
theorem _root_.TR.FreeOk.up_base{n:Nat}{B C:F}{U U':Nat->Prop}(g:FreeOk n B C U)(h1:∀ x,U' x->U x)(h2:∀ x,U x->U' x){p:Nat}(hp:U p)(v:Int):FreeOk n (up B p v) C U':=by
 obtain rfl:U=U':=funext λx=>propext ⟨h2 x,h1 x⟩
 exact⟨g.pos,g.root,g.lt,g.used,g.nxt,λx hx hu=>by rw[Yd _ _ (by rintro rfl;exact hu hp)];exact g.prv x hx hu,g.head⟩
theorem Zct{w0:World}{dp g0 g:Nat}(h:g=g0\/w0.heap.size<=g):∀ j,j<w0.heap.size->two dp g j->two dp g0 j:=by
 rintro j hj (e|e)
 ·exact .inl e
 ·rcases h with h|h
  ·exact .inr (e.trans h)
  ·omega
theorem Hv{U:Nat->Prop}{b k:Nat}{cs:List UInt8}{ck:UInt8}{hlt:k<cs.length}(HF:Hid (∀ j (h:j<cs.length),j<k->¬ U (b+cs[j].toNat)))(HK:Hid (ck=cs[k]))(HnU:Hid (¬ U (b+ck.toNat))) :
  Hid (∀ j (h:j<cs.length),j<k+1->¬ U (b+cs[j].toNat)):=by
 show ∀ j (h:j<cs.length),j<k+1->¬ U (b+cs[j].toNat);intro j h hj;by_cases e:j=k
 ·subst e;rw[<- HK.out];exact HnU.out
 ·exact HF.out j h Om
abbrev Zjv(w0:World)(dp g0 p:Nat)(B0 C0:F)(U:Nat->Prop)(cs:List UInt8)(b k K:Nat)(q:Nat)(g:Nat)(B C:F)(wr:World):Prop :=
 ¬ (U q\/∃ c∈cs.take k,q=b+c.toNat)/\Few (λx=>U x\/∃ c∈cs.take k,x=b+c.toNat) (K+k)/\(∀ c∈cs,¬ U (b+c.toNat))/\B p=(b:Int)/\(∀ c∈cs.take k,C (b+c.toNat)=(p:Int)) /\
  (∀ x,U x->(x≠p->B x=B0 x)/\(x≠0->C x=C0 x))/\Fr (two dp g0) w0 wr/\(g=g0\/w0.heap.size<=g)
theorem Zck{w0 wr w6:World}{dp g0 p:Nat}{B0 C0:F}{U:Nat->Prop}{cs:List UInt8}{b k K q g g6:Nat}{B C B6 C6:F}(hp:U p)(hb1:1<=b)
  (HN:Hid (Zjv w0 dp g0 p B0 C0 U cs b k K q g B C wr))
  (HR:Hid (wr.heap.size<=g6/\Fr (λj=>j=dp) wr w6/\∀ x,(U x\/∃ c∈cs.take k,x=b+c.toNat)->B6 x=B x/\(x≠0->C6 x=C x))) :
  Hid (Zjv w0 dp g0 p B0 C0 U cs b k K q g6 B6 C6 w6):=by
 obtain⟨h1,h2,h3,h4,h5,h6,h7,h8⟩:=HN.out;obtain⟨r1,r2,r3⟩:=HR.out;refine⟨h1,h2,h3,((r3 p (.inl hp)).1).trans h4,λc hc=>((r3 _ (.inr ⟨c,hc,rfl⟩)).2 Om).trans (h5 c hc),λx hx=>⟨λh0=>((r3 x (.inl hx)).1).trans ((h6 x hx).1 h0),λh0=>((r3 x (.inl hx)).2 h0).trans ((h6 x hx).2 h0)⟩,h7.trans r2 (λ_ _ e=>.inl e),.inr (Nt h7.size r1)⟩
theorem Gk{w0 wr w':World}{dp g0 n0 p T:Nat}{B0 C0:F}{U:Nat->Prop}{cs:List UInt8}{b k K g n:Nat}{ck:UInt8}{B C:F}(hlt:k<cs.length)(HK:Hid (ck=cs[k]))(m1:1<=b)(m2:b<=T)(hn5:n0<=n/\b<n)(hn6:n=n0\/n<=2*(T+256))
  (hp:U p) (HN:Hid (Zjv w0 dp g0 p B0 C0 U cs b k K (b+ck.toNat) g B C wr))
  (HX:Hid (Fr (two dp g) wr w'/\∃ B' C',DA w' dp g n B' C'/\Zmc n (b+ck.toNat) p B C (λx=>U x\/∃ c∈cs.take k,x=b+c.toNat) B' C')) :
  Hid (D7 w0 dp g0 n0 p B0 C0 U T cs b (k+1) w'):=by
 obtain⟨h1,h2,h3,h4,h5,h6,h7,h8⟩:=HN.out;obtain⟨f,B',C',D,t1,t2,t3⟩:=HX.out;have et:cs.take (k+1)=cs.take k++[ck]:=by rw[HK.out,List.take_succ_eq_append_getElem hlt]
 refine⟨m1,m2,h3,g,n,B',C',D,?_,((t3 p (.inl hp)).1).trans h4,λc hc=>?_,λx hx=>⟨λh0=>((t3 x (.inl hx)).1).trans ((h6 x hx).1 h0),λh0=>((t3 x (.inl hx)).2 h0).trans ((h6 x hx).2 h0)⟩,hn5,hn6,h7.trans f (Zct h8),h8⟩
 ·rw[et]
  have e:(λx=>U x\/∃ c∈cs.take k++[ck],x=b+c.toNat)=(λx=>(U x\/∃ c∈cs.take k,x=b+c.toNat)\/x=b+ck.toNat):=by
   funext x;apply propext;constructor
   ·rintro (h|⟨c,hc,h⟩)
    ·exact .inl (.inl h)
    ·rcases List.mem_append.1 hc with hc|hc
     ·exact .inl (.inr ⟨c,hc,h⟩)
     ·rw[List.mem_singleton.1 hc]at h;exact .inr h
   ·rintro ((h|⟨c,hc,h⟩)|h)
    ·exact .inl h
    ·exact .inr ⟨c,List.mem_append_left _ hc,h⟩
    ·exact .inr ⟨ck,List.mem_append_right _ (List.mem_singleton.2 rfl),h⟩
  rw[e];exact t1
 ·rw[et]at hc;rcases List.mem_append.1 hc with hc|hc
  ·exact ((t3 _ (.inr ⟨c,hc,rfl⟩)).2 Om).trans (h5 c hc)
  ·rw[List.mem_singleton.1 hc];exact t2
theorem Ky{P:Program}{a:Act}{w:World}{Q:Exit->Act->World->Prop}{c rest:Code}(l:Nat)(J:Act->World->Prop)(μ:Act->World->Nat)(hf:findLabel c l=some (Code.skip.seq rest))
  (first:(∀ a w,J a w->rest.wp P (Exit.jump l J Q) a w)->c.wp P (Exit.jump l J Q) a w)
  (pass:∀ a w,J a w->rest.wp P (Exit.jump l (λa' w'=>J a' w'/\μ a' w'<μ a w) Q) a w):(Code.scope c).wp P Q a w :=
 wp_scope_jumps l J μ hf (first λa w h=>Code.wp_mono (λe a' w' hq=>by
  cases e with
  | goto l'=>exact⟨hq.1,hq.2.1⟩
  | _=>exact hq) (pass a w h)) λa w h=>wp_seq (wp_skip (pass a w h))
def Zmz(w0:World)(dp g0 n0:Nat)(B0 C0:F)(U:Nat->Prop)(T:Nat)(f y:Nat)(wr:World):Prop :=
 ∃ g n B C,DA wr dp g n B C/\FreeOk n B C U/\(∀ x,U x->B x=B0 x/\(x≠0->C x=C0 x))/\C f = -(y:Int)/\Nxt n U f y/\f<n/\n0<=n/\(n=n0\/n<=2*T)/\Fr (two dp g0) w0 wr/\(g=g0\/w0.heap.size<=g)
theorem Zhi(w:World)(dp g n p cb co cc M:Nat)(c0:UInt8)(cs:List UInt8)(B C:F)(U:Nat->Prop)(h:DA w dp g n B C)(gd:FreeOk n B C U)(hn:n<=134217728)(hM:M<=67108864)(hp:U p)
  (hcs:∀ i (hi:i<cs.length),w.cell? ⟨cb,co+i,none⟩=some (.int .u8 (cs[i].toNat:Int))) (h0:cs.length<=256) (hc0:cs.head? = some c0) (hasc:cs.Pairwise (· < ·)) (hcb:cb≠dp) (hcg:cb≠g)
  (hU:∀ x,U x->x<M) (hroot:p=0->B 0=1/\∀ x,U x->x=0) (K:Nat) (hF:Few U K) (hK:K+cs.length+3<=n) :
  Calls Tryz.prog 279 #[.pointer (some ⟨dp,0,none⟩),.int .i64 p,.slice (some ⟨cb,co,none⟩) cs.length cc] w λe w'=>e=.returned (.tuple #[])/\∃ b,D7 w dp g n p B C U (max M 256) cs b cs.length w':=by
 have hlen:0<cs.length:=by cases cs with|nil=>simp at hc0|cons a l=>simp
 have hcell:=hcs 0 hlen;have e0:cs[0]=c0:=by cases cs with|nil=>simp at hc0|cons a l=>simpa using hc0
 rw[e0]at hcell;simp only[Nat.add_zero]at hcell;have hc256:c0.toNat<256:=c0.toNat_lt
 have hA:∀ c∈cs,c0.toNat<=c.toNat:=by
  cases cs with
  | nil=>simp
  | cons a l =>
   obtain rfl:a=c0:=by simpa using hc0
   intro c hc;rcases List.mem_cons.1 hc with rfl|hc
   ·exact Nl _
   ·exact Nat.le_of_lt (UInt8.lt_iff_toNat_lt.1 ((List.pairwise_cons.1 hasc).1 c hc))
 have HA:=Hd hA;clear hA;have hS:¬ two dp g cb:=λe=>e.elim hcb hcg
 have HH:=Hd h;have HQ:=Hd (Ai1 gd (Ai1 hp (Ai1 hcs (Ai1 hc0 (Ai1 hasc (Ai1 hU (Ai1 hroot hF)))))));clear h e0 gd hp hcs hc0 hasc hU hroot hF;go_enter Tryz.func279,Tryz.ntmps279
 go_wp2_with fail
 refine Ky 0 (λ(a':Act) (w':World)=>∃ (f:Nat) (fi:Int) (u8 u10 u11 u19 u20 u21 u22 u23 u24 u25 u26 u27 u28 u29 u30 u31 u32 u33 u34 u35 u36 u37 u38 u39 u40 u41 u42 u43 u44 u45 u46 u47 u48 u49 u50 u51 u52 u53 u54 u55 u56 u57 u58 u59 u60 u61 u62 u63 u64 u65 u66 u67 u68 u69 u70 u71 u72 u73 u74 u75 u76 u77 u78 u79:Value),a' = { tmps:=#[.pointer (some ⟨dp,0,none⟩),.int .i64 p,.slice (some ⟨cb,co,none⟩) cs.length cc,undef,undef,undef,.int .i64 fi,.int .i64 (c0.toNat:Int),u8,undef,u10,u11,undef,undef,undef,.slice (some ⟨cb,co,none⟩) cs.length cc,.pointer (some ⟨cb,co,none⟩),.int .u8 (c0.toNat:Int),.int .i64 (c0.toNat:Int),u19,u20,u21,u22,u23,u24,u25,u26,u27,u28,u29,u30,u31,u32,u33,u34,u35,u36,u37,u38,u39,u40,u41,u42,u43,u44,u45,u46,u47,u48,u49,u50,u51,u52,u53,u54,u55,u56,u57,u58,u59,u60,u61,u62,u63,u64,u65,u66,u67,u68,u69,u70,u71,u72,u73,u74,u75,u76,u77,u78,u79,undef,undef,undef,undef,undef,undef,undef,undef,undef,undef,undef,undef,undef,undef,undef,undef,undef,undef,undef,undef,undef,undef,undef,undef,undef,undef,undef,undef,undef,undef,undef,undef,undef,undef],defers:=[] } /\ fi=f/\Zjs w dp g n p B C U (max M 256) c0.toNat f w') (λa' _=>max M 256-(intOf (a'.tmps.getD 6 undef)).toNat) rfl ?_ ?_
 ·intro hpass;have HP:=Hd hpass;clear hpass;go_wp2_with fail
  go_step3
  rename_i Q1 K1 hK1;refine hK1 _ _ (HP.out _ _ ⟨0,0,_,_,_,_,_,_,_,_,_,_,_,_,_,_,_,_,_,_,_,_,_,_,_,_,_,_,_,_,_,_,_,_,_,_,_,_,_,_,_,_,_,_,_,_,_,_,_,_,_,_,_,_,_,_,_,_,_,_,_,_,_,_,_,_,rfl,rfl,g,n,B,C,HH.out,HQ.out.1,λx hx=>⟨rfl,λ_=>rfl⟩,.inl rfl,Om,Nl _,.inl rfl,Fl _,.inl rfl,λ_=>Nat.zero_le _⟩)
 ·rintro a' w' ⟨f,fi,u8,u10,u11,u19,u20,u21,u22,u23,u24,u25,u26,u27,u28,u29,u30,u31,u32,u33,u34,u35,u36,u37,u38,u39,u40,u41,u42,u43,u44,u45,u46,u47,u48,u49,u50,u51,u52,u53,u54,u55,u56,u57,u58,u59,u60,u61,u62,u63,u64,u65,u66,u67,u68,u69,u70,u71,u72,u73,u74,u75,u76,u77,u78,u79,rfl,rfl,HS⟩;have HS:=Hd HS;go_wp2_with fail
  go_loopw [6] (λv wr=>∃ f':Nat,v=.int .i64 f'/\f<=f'/\Hid (Zjs w dp g n p B C U (max M 256) c0.toNat f' wr)) (λv _=>max M 256-(intOf v).toNat)
  case atStart=>exact⟨f,rfl,Nl _,HS⟩
  case round =>
   clear HS;obtain⟨f',rfl,hff,HS⟩:=hrel;obtain⟨g1,n1,B1,C1,D,G,KP,hf1,hf2,hn1,hn2,hFr,hg1,hrt⟩:=HS.out;have hnb:n1<=268435456:=Om;have hpos:0<n1:=by have:=G.pos;omega
   have q0:=D.pc;have q1:=D.c 0 hpos;simp only[Nat.zero_mul,Nat.zero_add]at q1;have H2:=Hd (Ai1 D (Ai1 G (Ai1 KP (Ai1 hFr hg1))));clear D G KP hFr hg1 HS;refine wp_block ?_;refine wp_seq_k λK hK=>?_
   go_cut [] from 19 to 79 (λwx=>∃ y:Nat,Hid (Zmz w dp g n B C U (max M 256) f' y wx))
   case first =>
    by_cases hz:f'=0
    ·subst hz;go_wp2_with fail
     go_quiet (fail)
     go_wp2_with fail
     go_meet
     case rel =>
      obtain⟨D,G,KP,hFr,hg1⟩:=H2.out;obtain⟨y,hy,hN⟩:=G.next_first;exact⟨y,g1,n1,B1,C1,D.drewN nq,G,KP,hy,hN,hpos,hn1,hn2,hFr.drewN nq,hg1⟩
    ·have hfl:f'<n1/\¬ U f':=hf1.resolve_left hz;have q2:=(H2.out.1).c f' hfl.1;have hfn:=hfl.1;have hfz:((f':Int)==0)=false:=by simp;omega
     have hfz':((f':Int) != 0)=true:=by simp;omega
     have hfu:=Hd hfl.2;clear hfl hf1;by_cases hl:C1 f'=C1 0
     ·have hl':(C1 f'==C1 0)=true:=(by simpa using hl);have HL:=Hd hl;clear hl;go_wp2_with fail
      go_quiet (fail)
      go_wp2_with (go_at_call 291;refine (Ih _ dp g1 n1 B1 C1 U (H2.out.1.drewN nq) H2.out.2.1 hnb).mono ?_;rintro e w1 ⟨rfl,hx⟩;have HX:=Hd hx;clear hx)
      go_meet
      case rel =>
       obtain⟨D,G,KP,hFr,hg1⟩:=H2.out;obtain⟨g2,B2,C2,hg2,D2,G2,F2,K2⟩:=HX.out;have hL:=G.last_of hfn hfu.out HL.out;obtain⟨y,hy,hN⟩:=G2.next_grown hfn hfu.out Om G.lt;refine⟨y,g2,2*n1,B2,C2,D2,G2,λx hx=>⟨((K2 x hx).1).trans (KP x hx).1,λh0=>((K2 x hx).2 h0).trans ((KP x hx).2 h0)⟩,hy,hN,Om,Om,.inr ?_,(hFr.drewN nq).trans F2 (λj hj e=>.inl e),.inr (Nt (hFr.drewN nq).size hg2)⟩;rcases Nat.lt_or_ge (f'+1) n1 with q|q
       ·have:=HQ.out.2.2.2.2.2.1 _ (hL.2.2 (n1-1) Om Om);omega
       ·omega
     ·have hl':(C1 f'==C1 0)=false:=(by simpa using hl);have HL:=Hd hl;clear hl;go_wp2_with fail
      go_quiet (fail)
      go_wp2_with fail
      go_meet
      case rel =>
       obtain⟨D,G,KP,hFr,hg1⟩:=H2.out;obtain⟨y,hy,hN⟩:=G.next_more hfn hfu.out HL.out;exact⟨y,g1,n1,B1,C1,D.drewN nq,G,KP,hy,hN,hfn,hn1,hn2,hFr.drewN nq,hg1⟩
   case rest =>
    clear q0 q1 H2;obtain⟨y,HN⟩:=hcut;obtain⟨g2,n2,B2,C2,D,G,KP,hy,hN,hf3,hn3,hn4,hFr,hg2⟩:=HN;have hnb2:n2<=268435456:=Om;have q0:=D.pc;have q1:=D.c f' hf3;rw[hy]at q1;have hyn:=hN.2.1;have hfy:=hN.1
    have hyT:y<=max M 256:=by
     rcases hN.2.2.2 with e|e
     ·omega
     ·have:=HQ.out.2.2.2.2.2.1 _ e;omega
    have HFr:=Hd hFr;have H3:=Hd (Ai1 D (Ai1 G (Ai1 KP (Ai1 hN (Ai1 hFr (Ai1 hg2 hy))))));clear D G KP hN hFr hg2 hy;by_cases hb:y<=c0.toNat
    ·go_wp2
     go_roundw
     case rel =>
      obtain⟨D,G,KP,hN,hFr,hg2,hy⟩:=H3.out;exact⟨y,rfl,Om,g2,n2,B2,C2,D,G,KP,.inr ⟨hyn,hN.2.2.1⟩,Om,hn3,hn4,hFr,hg2,λ_=>hb⟩
     case measure=>simp[intOf];omega
    ·obtain⟨b,rfl⟩:∃ b,y=b+c0.toNat:=⟨y-c0.toNat,Om⟩;have hb1:1<=b:=Om;go_wp2_with fail
     go_loop [55] (λv=>∃ k:Nat,k<=cs.length/\v=.int .i64 k/\Hid (∀ j (h:j<cs.length),j<k->¬ U (b+cs[j].toNat))) (λv=>cs.length-(intOf v).toNat)
     case atStart=>exact⟨0,Nat.zero_le _,rfl,λj _ hj=>Om⟩
     case round =>
      obtain⟨k,hk,rfl,HF⟩:=hrel;by_cases hlt:k<cs.length
      ·have hck:=(HFr.out.cell (HQ.out.2.2.1 k hlt) hS);have hc256':cs[k].toNat<256:=cs[k].toNat_lt;obtain⟨ck,hck'⟩:∃ ck,ck=cs[k]:=⟨_,rfl⟩;rw[<- hck']at hck hc256';have HK:=Hd hck';clear hck';by_cases hq:b+ck.toNat<n2
       ·have q2:=(H3.out.1).c _ hq;by_cases hneg:0<=C2 (b+ck.toNat)
        ·go_wp2
         go_step3
         obtain⟨D,G,KP,hN,hFr,hg2,hy⟩:=H3.out
         have hUq:U (b+ck.toNat):=by
          by_cases e:U (b+ck.toNat)
          ·exact e
          ·have:=(G.free_iff hq Om).2 e;omega
         have hqM:=HQ.out.2.2.2.2.2.1 _ hUq;have hck0:c0.toNat<=ck.toNat:=HA.out ck (by rw[HK.out];exact List.getElem_mem hlt)
         have hy0:p=0->False:=λh0=>by
          have:=(HQ.out.2.2.2.2.2.2.1 h0).2 _ hUq;omega
         exact⟨rfl,⟨b+c0.toNat,_,_,_,_,_,_,_,_,_,_,_,_,_,_,_,_,_,_,_,_,_,_,_,_,_,_,_,_,_,_,_,_,_,_,_,_,_,_,_,_,_,_,_,_,_,_,_,_,_,_,_,_,_,_,_,_,_,_,_,_,_,_,_,_,_,rfl,rfl,g2,n2,B2,C2,D,G,KP,.inr ⟨hyn,hN.2.2.1⟩,Om,hn3,hn4,hFr,hg2,λh0=>(hy0 h0).elim⟩,by simp[intOf];omega⟩
        ·have hneg':C2 (b+ck.toNat)<0:=Om;have hnU:¬ U (b+ck.toNat):=((H3.out.2.1).free_iff hq Om).1 hneg';have HnU:=Hd hnU;clear hnU
         go_wp2
         go_round
         case rel =>
          (repeat apply Exists.intro)
          refine⟨?_,rfl,rfl,rfl⟩;exact⟨k+1,Om,by go_num,Hv HF HK HnU⟩
         case measure=>simp[intOf];omega
       ·have HnU:Hid (¬ U (b+ck.toNat)):=λhu=>by have:=(H3.out.2.1).lt _ hu;omega
        go_wp2
        go_round
        case rel =>
         (repeat apply Exists.intro)
         refine⟨?_,rfl,rfl,rfl⟩;exact⟨k+1,Om,by go_num,Hv HF HK HnU⟩
        case measure=>simp[intOf];omega
      ·have hfree:∀ c∈cs,¬ U (b+c.toNat):=λc hc=>by
        obtain⟨j,hj,rfl⟩:=List.getElem_of_mem hc;exact HF.out j hj Om
       obtain⟨D,G,KP,hN,hFr,hg2,hy⟩:=H3.out;have hpn:=G.lt p HQ.out.2.1
       have hb0:p=0->b=1:=λh0=>by
        have h1:=hrt h0;rcases hN.2.2.2 with e|e
        ·omega
        ·have:=(HQ.out.2.2.2.2.2.2.1 h0).2 _ e;omega
       have hBr:p=0->B2 0=(b:Int):=λh0=>by
        rw[hb0 h0,(KP 0 (h0▸HQ.out.2.1)).1,(HQ.out.2.2.2.2.2.2.1 h0).1];rfl
       have hCp:p≠0->0<=C2 p:=λh0=>G.used p HQ.out.2.1 h0
       have HB:=Hd (Ai1 hBr (Ai1 hCp hfree));have hFr2:=Hd hFr;have HG:=Hd (Ai1 D (Ai1 G (Ai1 KP hg2)));clear hBr hCp hfree hb0 hFr HF H3 HFr D G KP hg2 hN hy;go_wp2_with (go_at_call 292;refine (Ep _ dp g2 n2 p b B2 C2 HG.out.1 hpn HB.out.1 HB.out.2.1 Om).mono ?_;rintro e w5 ⟨rfl,hx⟩;have HX:=Hd hx;clear hx)
       go_loopw [86] (λv wr=>∃ k:Nat,k<=cs.length/\v=.int .i64 k/\Hid (D7 w dp g n p B C U (max M 256) cs b k wr)) (λv _=>cs.length-(intOf v).toNat)
       case atStart =>
        obtain⟨F5,D5⟩:=HX.out;refine⟨0,Nat.zero_le _,rfl,hb1,Om,HB.out.2.2,g2,n2,_,_,D5,?_,Y0 _ _ _,λc hc=>by simp at hc,λx hx=>⟨λh0=>by rw[Yd _ _ h0];exact (HG.out.2.2.1 x hx).1,(HG.out.2.2.1 x hx).2⟩,⟨hn3,Om⟩,?_,?_,HG.out.2.2.2⟩
        ·exact HG.out.2.1.up_base (λx hx=>hx.elim id (λh=>by obtain⟨c,hc,_⟩:=h;simp at hc)) (λx hx=>.inl hx) HQ.out.2.1 _
        ·omega
        ·exact hFr2.out.trans F5 (Zct HG.out.2.2.2)
       case round =>
        obtain⟨k,hk,rfl,HM⟩:=hrel;obtain⟨m1,m2,m3,g5,n5,B5,C5,D,G,mb,mc,KP,hn5,hn6,hFr5,hg5⟩:=HM.out;have hnb5:n5<=268435456:=Om;have hpos5:=G.pos;obtain⟨hn5,hb5⟩:=hn5;have hpn5:=G.lt p (.inl HQ.out.2.1);have q0:=D.pc;have q1:=D.b p hpn5;rw[mb]at q1;by_cases hlt:k<cs.length
        ·have hck:=(hFr5.cell (HQ.out.2.2.1 k hlt) hS);have hc256':cs[k].toNat<256:=cs[k].toNat_lt;have hin:cs[k]∈cs:=List.getElem_mem hlt;have hfr:=m3 _ hin
         have hnk:¬ (U (b+cs[k].toNat)\/∃ c∈cs.take k,b+cs[k].toNat=b+c.toNat):=by
          rintro (h|⟨c,hc,h⟩)
          ·exact hfr h
          ·obtain⟨j,hj,rfl⟩:=List.getElem_of_mem hc;simp only[List.length_take]at hj;rw[List.getElem_take]at h;have:=UInt8.lt_iff_toNat_lt.1 (List.pairwise_iff_getElem.1 HQ.out.2.2.2.2.1 j k Om hlt Om);omega
         have hfew:Few (λx=>U x\/∃ c∈cs.take k,x=b+c.toNat) (K+k):=by
          obtain⟨L,hL,hm⟩:=HQ.out.2.2.2.2.2.2.2;refine⟨L++(cs.take k).map (λc=>b+c.toNat),by simp;omega,λx hx=>?_⟩;rcases hx with h|⟨c,hc,rfl⟩
          ·exact List.mem_append_left _ (hm x h)
          ·exact List.mem_append_right _ (List.mem_map.2 ⟨c,hc,rfl⟩)
         obtain⟨ck,hck'⟩:∃ ck,ck=cs[k]:=⟨_,rfl⟩;rw[<- hck']at hck hc256' hnk hin hfr;have HK:=Hd hck';have HN:=Hd (Ai1 hnk (Ai1 hfew (Ai1 m3 (Ai1 mb (Ai1 mc (Ai1 KP (Ai1 hFr5 hg5)))))));have HD:=Hd (Ai1 D G);clear hck' hnk hfew m3 mb mc KP hFr5 hg5 D G hfr hin;by_cases hq:b+ck.toNat<n5
         ·have hne:=HD.out.2.ne_of_few HN.out.2.1 Om hq HN.out.1;have hne':(B5 (b+ck.toNat)==C5 (b+ck.toNat))=false:=(by simpa using hne);have HE:=Hd hne';clear hne hne';go_wp2_with (go_at_call 293;refine (Nm _ dp g5 n5 _ p B5 C5 _ HD.out.1 HD.out.2 Om hq HN.out.1 hpn5 HE.out).mono ?_;rintro e w6 ⟨rfl,hx⟩;have HX:=Hd hx;clear hx)
          go_roundw
          case rel=>exact⟨k+1,Om,by go_num,Gk hlt HK m1 m2 ⟨hn5,hb5⟩ hn6 HQ.out.2.1 HN HX⟩
          case measure=>simp[intOf];omega
         ·go_wp2_with (first|(go_at_call 291;refine (Ih _ dp g5 n5 B5 C5 _ HD.out.1 HD.out.2 hnb5).mono ?_;rintro e w6 ⟨rfl,hx⟩;have HX:=Hd hx;clear hx))
          obtain⟨g6,B6,C6,hg6,D6,G6,F6,K6⟩:=HX.out;have hq6:b+ck.toNat<2*n5:=Om;have hne:=G6.ne_of_few HN.out.2.1 Om hq6 HN.out.1;have hne':(B6 (b+ck.toNat)==C6 (b+ck.toNat))=false:=(by simpa using hne);have HE:=Hd hne';have HD6:=Hd (Ai1 D6 G6);have HR6:=Hd (Ai1 hg6 (Ai1 F6 K6));have hpn6:p<2*n5:=Om;clear hne hne' D6 G6 hg6 F6 K6 HX;go_wp2_with (go_at_call 293;refine (Nm _ dp g6 (2*n5) _ p B6 C6 _ HD6.out.1 HD6.out.2 Om hq6 HN.out.1 hpn6 HE.out).mono ?_;rintro e w7 ⟨rfl,hx⟩;have HX:=Hd hx;clear hx)
          go_roundw
          case rel=>exact⟨k+1,Om,by go_num,Gk hlt HK m1 m2 ⟨Om,Om⟩ (.inr Om) HQ.out.2.1 (Zck HQ.out.2.1 m1 HN HR6) HX⟩
          case measure=>simp[intOf];omega
        ·obtain rfl:k=cs.length:=Om
         go_wp2
         simp only[Exit.jump]
         go_end0
         exact⟨rfl,b,HM.out⟩
end Go.Proofs.YtlfoalomaofejaaGreatDoor
