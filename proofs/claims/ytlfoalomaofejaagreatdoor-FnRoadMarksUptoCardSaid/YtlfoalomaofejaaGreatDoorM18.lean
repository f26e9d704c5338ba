/- The lattice in memory: rows of -/
import Derived.Test.YtlfoalomaofejaaGreatDoorM17
import Derived.Maps.AppendAt
import Derived.Deep.RegionLaw
import Derived.Deep.CutRange
import Derived.Deep.CutBlock
import Derived.BigRegion
set_option linter.all false
set_option maxRecDepth 100000
set_option maxHeartbeats 4000000
namespace Go.Proofs.YtlfoalomaofejaaGreatDoor
open Go.RowKit Go.Shelf LT
theorem Sv(s:ByteArray)(w:World)(h:s.size<9223372036854775807):Calls Tryz.prog 162 #[.string s] w λe w'=>e=.returned (.int .i64 (Lib.runeCount s))/\Zf w w':=by
 refine (Any.utf8_RuneCountInString laysCount s w h).mono ?_;rintro e w' ⟨rfl,pos,rfl⟩;exact⟨rfl,(Fl _).alloc _⟩
def Xm(x:Nd)(cost:Int)(prev:Option Nat):Array Value :=
 #[.int .i64 x.id,.int .i64 x.pos,.int .i64 x.start,.int .i64 x.cls,.int .i32 cost,.int .i32 x.m.lf,.int .i32 x.m.rt,.int .i32 x.m.wt,.string x.surf,.pointer (prev.map λb=>⟨b,0,none⟩)]
structure Yp(w:World)(g R:Nat)(vs:Nat->Value)(ns:List Nd)(nb:Nat->Nat)(cost:Nat->Int)(prev:Nat->Option Nat):Prop where
 cell:∀ p,p<R->w.cell? ⟨g,p,none⟩=some (vs p)/\w.frozen? ⟨g,p,none⟩=false
 row:∀ p,p<R->w.ownsRow 0 301 1 (vs p) (row ns p).length ((row ns p).map λm=>.pointer (some ⟨nb m,0,none⟩))
 apart:∀ p q,p<R->q<R->p≠q->∀ j,(vs p).ownBlock=some j->(vs q).ownBlock≠some j
 offg:∀ p,p<R->(vs p).ownBlock≠some g
 node:∀ m,m<ns.length->w.heap[nb m]?=some (.cells (Xm (ns.getD m default) (cost m) ((prev m).map nb)) 304 (0,0))
 noff:∀ m,m<ns.length->nb m≠g/\∀ p,p<R->(vs p).ownBlock≠some (nb m)
 inj:∀ m k,m<ns.length->k<ns.length->nb m=nb k->m=k
variable{w w':World}{g R:Nat}{vs:Nat->Value}{ns:List Nd}{nb:Nat->Nat}{cost:Nat->Int}{prev:Nat->Option Nat}
theorem O7{w:World}{base sz n g:Nat}{e:TypeId}{v:Value}{xs:List Value}(h:w.ownsRow base e sz v n xs)(q:v.ownBlock=some g):g<w.heap.size:=by
 obtain⟨_,⟨rfl,_⟩|⟨A,cap,G,rfl,_,z,_⟩⟩:=h
 ·cases q
 ·have:A=g:=by simpa [Value.ownBlock] using q
  subst this;exact (Gs1.1 z).1
theorem Zim{ns:List Nd}{p m:Nat}(h:m∈row ns p):m<ns.length:=by
 unfold row at h;have:=(List.mem_filter.1 h).1;exact List.mem_range.1 this
def Yz(g R:Nat)(vs:Nat->Value):Nat->Prop:=λj=>j=g\/∃ p,p<R/\(vs p).ownBlock=some j
theorem Yp.lt(h:Yp w g R vs ns nb cost prev)(q:0<R):∀ j,Yz g R vs j->j<w.heap.size:=by
 rintro j (rfl|⟨p,hp,e⟩)
 ·exact lt_of_cell (h.cell 0 q).1
 ·exact O7 (h.row p hp) e
theorem Yp.keep{S:Nat->Prop}(h:Yp w g R vs ns nb cost prev)(f:Fr S w w')(h1:∀ j,Yz g R vs j->¬ S j)(h2:∀ m,m<ns.length->¬ S (nb m)):Yp w' g R vs ns nb cost prev where
 cell p hp:=⟨f.cell (h.cell p hp).1 (h1 g (.inl rfl)),(f.frozen (h.cell p hp).1 (h1 g (.inl rfl))).trans (h.cell p hp).2⟩
 row p hp:=Zr (h.row p hp) f (λj e=>h1 j (.inr ⟨p,hp,e⟩))
 apart:=h.apart
 offg:=h.offg
 node m hm:=f.heap (h.node m hm) (h2 m hm)
 noff:=h.noff
 inj:=h.inj
theorem Yp.ext(h:Yp w g R vs ns nb cost prev)(f:Zf w w'):Yp w' g R vs ns nb cost prev:=h.keep f (λ_ _=>id) (λ_ _=>id)
theorem Yp.add{x:Nd}(h:Yp w g R vs ns nb (λ_=>0) (λ_=>none))(L:x.fin<R){wa X:World}{I:Value}{N:Nat}(hx:Zf w wa)(hN:w.heap.size<=N)(V:wa.heap[N]?=some (.cells (Xm x 0 none) 304 (0,0)))
  (ho:X.ownsRow 0 301 1 I ((LT.row ns x.fin).length+1) (((LT.row ns x.fin).map λm=>.pointer (some ⟨nb m,0,none⟩))++[.pointer (some ⟨N,0,none⟩)]))
  (hg:wa.grownBy X (vs x.fin).ownBlock) (ag:I.ownBlock=(vs x.fin).ownBlock\/I.ownBlock=some wa.heap.size) :
  Yp (X.setCell ⟨g,x.fin,none⟩ I) g R (Oj vs x.fin I) (ns++[x]) (Oj nb ns.length N) (λ_=>0) (λ_=>none)/\Fr (Yz g R vs) w (X.setCell ⟨g,x.fin,none⟩ I)/\(∀ j,Yz g R (Oj vs x.fin I) j->Yz g R vs j\/w.heap.size<=j):=by
 have ak:g<w.heap.size:=lt_of_cell (h.cell _ L).1;have U:∀ p,p<R->∀ j,(vs p).ownBlock=some j->j<w.heap.size:=λp hp j e=>O7 (h.row p hp) e
 have ah:N<wa.heap.size:=(Gs1.1 V).1;have ae:Fr (λj=>(vs x.fin).ownBlock=some j) wa X:=(Fl _).grown hg (λk e _=>e);have F3:Fr (λj=>(vs x.fin).ownBlock=some j) w X:=Fr.trans (S:=λj=>(vs x.fin).ownBlock=some j) (hx.mono (λ_ _ e=>e.elim)) ae (λj _ e=>e);have W:¬ (vs x.fin).ownBlock=some g:=h.offg _ L;have af:X.cell? ⟨g,x.fin,none⟩=some (vs x.fin):=F3.cell (h.cell _ L).1 W
 have J:∀ j,I.ownBlock=some j->(vs x.fin).ownBlock=some j\/j=wa.heap.size:=by
  intro j e;rcases ag with q|q
  ·left;rw[<- q];exact e
  ·right;rw[q]at e;exact (Option.some.inj e).symm
 have F4:Fr (λj=>j=g) X (X.setCell ⟨g,x.fin,none⟩ I):=(Fl _).setCell _ _ (λ_=>rfl);have z:∀ p,p≠x.fin->Oj vs x.fin I p=vs p:=λp hp=>by unfold Oj;rw[if_neg hp]
 have G:Oj vs x.fin I x.fin=I:=by unfold Oj;rw[if_pos rfl]
 have A:∀ m,m<ns.length->Oj nb ns.length N m=nb m:=λm K=>by unfold Oj;rw[if_neg Om]
 have M:Oj nb ns.length N ns.length=N:=by unfold Oj;rw[if_pos rfl]
 have ai:=hx.size
 have ad:I.ownBlock≠some g:=by
  intro e;rcases J g e with q|q
  ·exact W q
  ·omega
 have ac:∀ p,p<R->p≠x.fin->∀ j,I.ownBlock=some j->(vs p).ownBlock≠some j:=by
  intro p hp aa j e q;rcases J j e with r|r
  ·exact h.apart _ _ L hp (Ne.symm aa) j r q
  ·have:=U p hp j q;omega
 refine⟨⟨?_,?_,?_,?_,?_,?_,?_⟩,?_,?_⟩
 ·intro p hp;by_cases e:p=x.fin
  ·subst e;rw[G];exact⟨World.cell?_setCell_same' _ _ _ (by rw[af];rfl),by rw[World.frozen?_setCell];exact (F3.frozen (h.cell _ L).1 W).trans (h.cell _ L).2⟩
  ·rw[z p e];have aa:(⟨g,x.fin,none⟩:Addr)≠⟨g,p,none⟩:=by intro q;simp only[Addr.mk.injEq,true_and,and_true]at q;exact e q.symm
   exact⟨(World.cell?_setCell_other _ _ _ _ aa).trans (F3.cell (h.cell p hp).1 W),by rw[World.frozen?_setCell];exact (F3.frozen (h.cell p hp).1 W).trans (h.cell p hp).2⟩
 ·intro p hp;rw[Zil];by_cases e:p=x.fin
  ·subst e;rw[G,if_pos rfl,List.length_append,List.map_append];have Y:(LT.row ns x.fin).map (λm=>Value.pointer (some ⟨Oj nb ns.length N m,0,none⟩))=(LT.row ns x.fin).map (λm=>Value.pointer (some ⟨nb m,0,none⟩)):=List.map_congr_left (λm K=>by rw[A m (Zim K)]);rw[Y];simp only[List.map_cons,List.map_nil,M];exact Zr ho F4 (λj q r=>ad (by rw[q,r]))
  ·rw[z p e,if_neg (λq=>e q.symm),List.append_nil];have Y:(LT.row ns p).map (λm=>Value.pointer (some ⟨Oj nb ns.length N m,0,none⟩))=(LT.row ns p).map (λm=>Value.pointer (some ⟨nb m,0,none⟩)):=List.map_congr_left (λm K=>by rw[A m (Zim K)]);rw[Y];refine Zr (Zr (h.row p hp) F3 (λj q r=>h.apart _ _ L hp (Ne.symm e) j r q)) F4 (λj q r=>h.offg p hp (by rw[q,r]))
 ·intro p q hp hq Z j Y e2;by_cases a:p=x.fin
  ·subst a;rw[G]at Y;rw[z q (Ne.symm Z)]at e2;exact ac q hq (Ne.symm Z) j Y e2
  ·rw[z p a]at Y;by_cases b:q=x.fin
   ·subst b;rw[G]at e2;exact ac p hp a j e2 Y
   ·rw[z q b]at e2;exact h.apart p q hp hq Z j Y e2
 ·intro p hp e;by_cases a:p=x.fin
  ·subst a;rw[G]at e;exact ad e
  ·rw[z p a]at e;exact h.offg p hp e
 ·intro m K;rw[List.length_append,List.length_singleton]at K;rcases Nat.lt_or_ge m ns.length with q|q
  ·have e0:(ns++[x]).getD m default=ns.getD m default:=(by simp only[List.getD_eq_getElem?_getD,List.getElem?_append_left q]);rw[A m q,e0];exact F4.heap (F3.heap (h.node m q) ((h.noff m q).2 _ L)) ((h.noff m q).1)
  ·have:m=ns.length:=Om;subst this;have e0:(ns++[x]).getD ns.length default=x:=(by simp[List.getD_eq_getElem?_getD]);rw[M,e0];exact F4.heap (ae.heap V (λe=>by have:=U _ L _ e;omega)) Om
 ·intro m K;rw[List.length_append,List.length_singleton]at K
  have key:∀ k,(k<w.heap.size->k≠g/\∀ p,p<R->(vs p).ownBlock≠some k)->k<wa.heap.size->k≠g/\∀ p,p<R->(Oj vs x.fin I p).ownBlock≠some k:=by
   intro k hk aj
   have ab:k≠g/\∀ p,p<R->(vs p).ownBlock≠some k:=by
    rcases Nat.lt_or_ge k w.heap.size with a|a
    ·exact hk a
    ·exact⟨Om,λp hp e=>by have:=U p hp k e;omega⟩
   refine⟨ab.1,λp hp e=>?_⟩;by_cases a:p=x.fin
   ·subst a;rw[G]at e;rcases J k e with r|r
    ·exact ab.2 _ L r
    ·omega
   ·rw[z p a]at e;exact ab.2 p hp e
  rcases Nat.lt_or_ge m ns.length with q|q
  ·rw[A m q];refine key _ (λ_=>h.noff m q) ?_;have:=(Gs1.1 (h.node m q)).1;omega
  ·have:m=ns.length:=Om;subst this;rw[M];exact key N (λa=>Om) ah
 ·intro m k K hk e;rw[List.length_append,List.length_singleton]at K hk;have lt:∀ m,m<ns.length->nb m<w.heap.size:=λm K=>(Gs1.1 (h.node m K)).1
  rcases Nat.lt_or_ge m ns.length with a|a<;>rcases Nat.lt_or_ge k ns.length with b|b
  ·rw[A m a,A k b]at e;exact h.inj m k a b e
  ·have:k=ns.length:=Om;subst this;rw[A m a,M]at e;have:=lt m a;omega
  ·have:m=ns.length:=Om;subst this;rw[A k b,M]at e;have:=lt k b;omega
  ·omega
 ·exact Fr.trans (S:=Yz g R vs) (F3.mono (λj _ e=>.inr ⟨_,L,e⟩)) F4 (λj _ e=>.inl e)
 ·rintro j (rfl|⟨p,hp,e⟩)
  ·exact .inl (.inl rfl)
  ·by_cases a:p=x.fin
   ·subst a;rw[G]at e;rcases J j e with r|r
    ·exact .inl (.inr ⟨_,L,r⟩)
    ·exact .inr Om
   ·rw[z p a]at e;exact .inl (.inr ⟨p,hp,e⟩)
theorem Z9{P:Program}{ops:Array Oper}{o:Oper}{a:Act}{w:World}{K:Act->World->Prop}{Q:Exit->Act->World->Prop}{E:Prop}
  (hg:o.guard=none) (s x:Operand) (t:TypeId) (J:o.op=Op.call { callee:=Callee.builtin Builtin.append,args:=#[s,x],argTypes:=#[t,t] })
  (base:Nat) (e:TypeId) (i:TypeInfo) (z:Value) (size q:Nat) (h1:P.underlying t=some (.slice e)) (h2:P.info? e=some i) (h3:i.zero=some z) (h4:i.size=size) (h5:i.bytes=q) (h6:z.cells.size=size) (h7:0<size)
  (v:Value) (n:Nat) (xs:List Value) (hs:a.eval s=v) (I:w.ownsRow base e size v n xs)
  (M:Addr) (m c:Nat) (h:List Value) (Y:a.eval x=.slice (some M) m c) (hn:h.length=m*size) (hc:∀ j u,h[j]?=some u->w.cell? (M.add j)=some u) (L:∀ u∈h,u.oneCell'=true)
  (b1:n+m<=maxLen) (b2:(n+m)*q<=140737488355328) (G:base<=w.heap.size)
  (hK:∀ A w',w'.ownsRow base e size A (n+m) (xs++h)->w.grownBy w' v.ownBlock->(A=.slice none 0 0↔v=.slice none 0 0/\m=0)->(A.ownBlock=v.ownBlock\/A.ownBlock=some w.heap.size)->K (a.put o.dst A) w') :
  if Region.wanted o (yielded ops a.tmps)=true then Oper.wp P o a w K Q else E:=by
 have Z:Region.wanted o (yielded ops a.tmps)=true:=by simp[Region.wanted,hg]
 rw[if_pos Z];obtain⟨A,w',hr,X,W,V,U⟩:=run_append_own_at (P:=P) w base t o.type e i z size q h1 h2 h3 h4 h5 h6 h7 v n xs I M m c h hn hc L b1 b2 G;unfold Oper.wp;simp only[execOp,J,resolve,invoke,builtin,Sem.run_bind,Sem.run_pure,Result.andThen_ok,List.map_toArray,List.map_cons,List.map_nil,hs,Y,hr];exact hK A w' X W V U
theorem Hj{h z:World}{o:Obj}{v u:Value}{a:Addr}(A:h.cell? a=some u)(G:(h.drew.alloc o).grownBy z v.ownBlock)(q:v.ownBlock≠some a.block):z.cell? a=some u/\z.frozen? a=h.frozen? a:=by
 have F:Fr (λj=>v.ownBlock=some j) h z:=(((Fl h).drew).alloc o).grown G (λk e _=>e);exact⟨F.cell A q,F.frozen A q⟩
def Zfn(w:World)(z:Nat)(cls:Nat)(id:Int)(m:Wj):Prop :=
 ((cls=0\/cls=3)/\m=zeroM)\/∃ q h n c i:Nat,w.cell? ⟨z,3,none⟩=some (.pointer (some ⟨q,0,none⟩))/\id=(i:Int)/\i<n /\
  ((cls=1/\w.cell? ⟨q,0,none⟩=some (.slice (some ⟨h,0,none⟩) n c))\/(cls=2/\w.cell? ⟨q,14,none⟩=some (.slice (some ⟨h,0,none⟩) n c))) /\
  w.cell? ⟨h,i*3,none⟩=some (.int .i16 m.lf)/\w.cell? ⟨h,i*3+1,none⟩=some (.int .i16 m.rt)/\w.cell? ⟨h,i*3+2,none⟩=some (.int .i16 m.wt) /\
  (-32768<=m.lf/\m.lf<=32767)/\(-32768<=m.rt/\m.rt<=32767)/\(-32768<=m.wt/\m.wt<=32767)
theorem Uy(U g R c:Nat)(vs:Nat->Value)(ns:List Nd)(nb:Nat->Nat)(x:Nd)(I:Nat)(w:World)(hl:w.cell? ⟨U,2,none⟩=some (.slice (some ⟨g,0,none⟩) R c))(hR:R<=1000000)
  (h:Yp w g R vs ns nb (λ_=>0) (λ_=>none)) (al:¬ Yz g R vs U) (hn:ns.length<=1000000000) (J:Zfn w U x.cls x.id x.m) (hs:x.surf.size<=1000000) (hp:x.fin=I+Lib.runeCount x.surf) (X:x.fin<R) (ab:x.pos<=1000000/\x.start<=1000000) :
  Calls Tryz.prog 190 #[.pointer (some ⟨U,0,none⟩),.int .i64 I,.int .i64 x.id,.int .i64 x.pos,.int .i64 x.start,.int .i64 x.cls,.string x.surf] w λe w'=>e=.returned (.tuple #[])/\∃ Z M,Yp w' g R Z (ns++[x]) M (λ_=>0) (λ_=>none)/\Fr (Yz g R vs) w w'/\(∀ j,Yz g R Z j->Yz g R vs j\/w.heap.size<=j)/\(∀ m,m<ns.length->M m=nb m)/\w.heap.size<=M ns.length:=by
 have mixed:Tryz.prog.follows .mixedOrders=true:=Kr
 obtain⟨V,pos,start,fin,cls,⟨lf,rt,wt⟩,surf⟩:=x;simp only at J hs hp X ab⊢;have H:=Hd h;have ai:U<w.heap.size:=lt_of_cell hl;clear h;go_enter Tryz.func190,Tryz.ntmps190
 go_upto_block 0 with fail
 go_cut [] from 17 to 46 (λwx=>wx=w.alloc (.cells #[.int .i16 lf,.int .i16 rt,.int .i16 wt] 178))
 case first =>
  rcases J with ⟨ae,J⟩|⟨kd,gm,n,cc,i,d3,rfl,be,am,m1,m2,m3,b1,b2,b3⟩
  ·simp only[zeroM,Wj.mk.injEq]at J;obtain⟨rfl,rfl,rfl⟩:=J;rcases ae with rfl|rfl
   all_goals (go_wp2_with fail;go_meet)
   all_goals rfl
  ·have a7:gm<w.heap.size:=lt_of_cell m1;rcases am with ⟨rfl,d0⟩|⟨rfl,d0⟩
   all_goals have a6:kd<w.heap.size:=lt_of_cell d0
   all_goals (go_wp2_with fail;go_meet)
   all_goals rfl
 case rest =>
  have ak:(-32768<=lf/\lf<=32767)/\(-32768<=rt/\rt<=32767)/\(-32768<=wt/\wt<=32767):=by
   rcases J with ⟨_,J⟩|⟨_,_,_,_,_,_,_,_,_,_,_,_,b1,b2,b3⟩
   ·simp only[zeroM,Wj.mk.injEq]at J;obtain⟨rfl,rfl,rfl⟩:=J;exact⟨Om,Om,Om⟩
   ·exact⟨b1,b2,b3⟩
  obtain⟨⟨b1,av⟩,⟨b2,au⟩,⟨b3,ar⟩⟩:=ak;clear J;subst hcut;go_step;go_upto_region 14 with fail
  go_cut [] from 67 to 84 (λwx=>wx=(w.drew.alloc (.cells #[.int .i16 lf,.int .i16 rt,.int .i16 wt] 178)).alloc (.cells #[(.int .i64 V),.int .i64 pos,.int .i64 start,.int .i64 cls,.int .i32 0,.int .i32 lf,.int .i32 rt,.int .i32 wt,.string .empty,.pointer none] 304))
  case first =>
   have w1:IntKind.i32.wrap lf=lf:=by rw[IntKind.wrap_i32];omega
   have L:IntKind.i32.wrap rt=rt:=by rw[IntKind.wrap_i32];omega
   have w3:IntKind.i32.wrap wt=wt:=by rw[IntKind.wrap_i32];omega
   go_big_region_o
   all_goals (go_wp2;go_meet)
   all_goals first|rfl|fail
  case rest =>
   clear b1 av b2 au b3 ar;subst hcut;obtain⟨q,hq⟩:∃ q,q=Lib.runeCount surf:=⟨_,rfl⟩;rw[<- hq]at hp;have bc:q<=1000000:=by have:=Lib.runeCount_le surf;omega
   have aa:(I:Int)+(q:Int)=(fin:Int):=Om;have az:=Hd hp;clear hp;go_step;go_upto_region 18 with (first|(go_at_call 162;refine (Sv surf _ Om).mono ?_;rw[<- hq];rintro e L ⟨rfl,hx⟩;have HX:=Hd hx;clear hx)|fail)
   rw[<- hq,aa];obtain⟨N,hN⟩:∃ N,N=w.heap.size+1:=⟨_,rfl⟩;have X2:Zf w L:=((((Fl w).alloc _).alloc _).drew).ext HX.out
   have G:L.heap[N]?=some (.cells (Xm ⟨V,pos,start,fin,cls,⟨lf,rt,wt⟩,surf⟩ 0 none) 304 (0,0)):=by
    refine HX.out.heap ?_ id;exact alloc_at' _ _ (by rw[hN,Za])
   have ac:=X2.cell hl id;have H2:=Hd (H.out.ext X2);have c2:=(H2.out.cell fin X).1;have f2:=(H2.out.cell fin X).2;have HO:=Hd (H2.out.row fin X);have ay:U<L.heap.size:=lt_of_cell ac;have a8:g<L.heap.size:=lt_of_cell c2;have lN:N<L.heap.size:=(Gs1.1 G).1;have Y:=Hd (H2.out.offg fin X);have ah:Hid ((vs fin).ownBlock≠some U):=λe=>al (.inr ⟨fin,X,e⟩)
   rw[<- hN];have ag:=Hd hN;have ax:=Hd G;have aw:=Hd X2
   have bb:(row ns fin).length<=1000000000:=by
    have:(row ns fin).length<=ns.length:=by unfold row;exact Nt (List.length_filter_le _ _) (by simp)
    omega
   obtain⟨ei,ad⟩:∃ i,Tryz.prog.info? 301=some i:=by
    cases h:Tryz.prog.info? 301 with
    | none =>
     have:(Tryz.prog.info? 301).isSome=true:=Kr;rw[h]at this;cases this
    | some i=>exact⟨i,rfl⟩
   have K:(Tryz.prog.info? 301).map (λi=>(i.zero,i.size,i.bytes))=some (some (.pointer none),1,8):=Kr;rw[ad]at K;simp only[Option.map_some,Option.some.injEq,Prod.mk.injEq]at K;obtain⟨aq,ap,ao⟩:=K;clear hN G X2 HX hl ai hq aa;generalize hv:vs fin=v at c2 HO Y ah;have HV:=Hd hv;clear hv
   go_region_law (refine Z9 rfl _ _ 297 rfl 0 301 ei (.pointer none) 1 8 Tryz.underlying297 ad aq ap ao rfl (by decide) v (row ns fin).length _ rfl (HO.out.alloc _) ⟨L.heap.size,0,none⟩ 1 1 [.pointer (some ⟨N,0,none⟩)] rfl rfl (Z2 _ _) (by intro u hu;rw[List.mem_singleton.1 hu];rfl) (by unfold maxLen;omega) Om (Nat.zero_le _) ?_;intro v' w3 A z W af;obtain⟨A',bf,aj⟩:=Zm A;subst aj;have c3:=(Hj c2 z Y.out).1;have f3:=(Hj c2 z Y.out).2.trans f2;have bd:=(Hj ac z ah.out).1;have HG:=Hd (Ai1 A (Ai1 z af));clear A z af W)
   all_goals go_end0
   all_goals
    obtain⟨a1,a2,a3⟩:=Yp.add (x:=⟨V,pos,start,fin,cls,⟨lf,rt,wt⟩,surf⟩) H.out X ((aw.out.alloc _).drew) (by rw[ag.out];exact Nat.le_succ _) (((Fe L).alloc _).drew.heap ax.out (λq=>q)) HG.1 (by rw[HV.out];exact HG.2.1) (by rw[HV.out];exact HG.2.2);exact⟨rfl,_,_,a1,a2,a3,λm J=>by unfold Oj;rw[if_neg Om],by unfold Oj;rw[if_pos rfl,ag.out];omega⟩
end Go.Proofs.YtlfoalomaofejaaGreatDoor
