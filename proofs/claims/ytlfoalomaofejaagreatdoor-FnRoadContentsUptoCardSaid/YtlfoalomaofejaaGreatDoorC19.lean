/- The lattice in memory: rows of -/
import Derived.Test.YtlfoalomaofejaaGreatDoorC4
import Derived.Test.YtlfoalomaofejaaGreatDoorC18
import Derived.Maps.AppendAt
import Derived.Deep.RegionLaw
import Derived.Deep.CutRange
import Derived.Deep.CutBlock
import Derived.BigRegion
set_option linter.all false
set_option maxRecDepth 100000
set_option maxHeartbeats 4000000
namespace Go.Proofs.YtlfoalomaofejaaGreatDoor
open Go.RowKit Go.Shelf LT
theorem R3(s:ByteArray)(w:World)(hs:s.size<9223372036854775807):Calls Tryz.prog 162 #[.string s] w λe w'=>e=.returned (.int .i64 (Lib.runeCount s))/\Zf w w':=by
 refine (Any.utf8_RuneCountInString laysCount s w hs).mono ?_;rintro e w' ⟨rfl,pos,rfl⟩;exact⟨rfl,(Fl _).alloc _⟩
def Xd(x:Nd)(cost:Int)(prev:Option Nat):Array Value :=
 #[.int .i64 x.id,.int .i64 x.pos,.int .i64 x.start,.int .i64 x.cls,.int .i32 cost,.int .i32 x.m.lf,.int .i32 x.m.rt,.int .i32 x.m.wt,.string x.surf,.pointer (prev.map λb=>⟨b,0,none⟩)]
structure Ym(w:World)(g R:Nat)(vs:Nat->Value)(ns:List Nd)(nb:Nat->Nat)(cost:Nat->Int)(prev:Nat->Option Nat):Prop where
 cell:∀ p,p<R->w.cell? ⟨g,p,none⟩=some (vs p)/\w.frozen? ⟨g,p,none⟩=false
 row:∀ p,p<R->w.ownsRow 0 301 1 (vs p) (row ns p).length ((row ns p).map λm=>.pointer (some ⟨nb m,0,none⟩))
 apart:∀ p q,p<R->q<R->p≠q->∀ j,(vs p).ownBlock=some j->(vs q).ownBlock≠some j
 offg:∀ p,p<R->(vs p).ownBlock≠some g
 node:∀ m,m<ns.length->w.heap[nb m]?=some (.cells (Xd (ns.getD m default) (cost m) ((prev m).map nb)) 304 (0,0))
 noff:∀ m,m<ns.length->nb m≠g/\∀ p,p<R->(vs p).ownBlock≠some (nb m)
 inj:∀ m k,m<ns.length->k<ns.length->nb m=nb k->m=k
variable{w w':World}{g R:Nat}{vs:Nat->Value}{ns:List Nd}{nb:Nat->Nat}{cost:Nat->Int}{prev:Nat->Option Nat}
theorem Ow{w:World}{base sz n g:Nat}{e:TypeId}{v:Value}{xs:List Value}(h:w.ownsRow base e sz v n xs)(hg:v.ownBlock=some g):g<w.heap.size:=by
 obtain⟨_,⟨rfl,_⟩|⟨g',cap,cur,rfl,_,hc,_⟩⟩:=h
 ·cases hg
 ·have:g'=g:=by simpa [Value.ownBlock] using hg
  subst this;exact (Gs1.1 hc).1
theorem Zhk{ns:List Nd}{p m:Nat}(h:m∈row ns p):m<ns.length:=by
 unfold row at h;have:=(List.mem_filter.1 h).1;exact List.mem_range.1 this
def Yt(g R:Nat)(vs:Nat->Value):Nat->Prop:=λj=>j=g\/∃ p,p<R/\(vs p).ownBlock=some j
theorem Ym.lt(h:Ym w g R vs ns nb cost prev)(hR:0<R):∀ j,Yt g R vs j->j<w.heap.size:=by
 rintro j (rfl|⟨p,hp,e⟩)
 ·exact lt_of_cell (h.cell 0 hR).1
 ·exact Ow (h.row p hp) e
theorem Ym.keep{S:Nat->Prop}(h:Ym w g R vs ns nb cost prev)(f:Fr S w w')(h1:∀ j,Yt g R vs j->¬ S j)(h2:∀ m,m<ns.length->¬ S (nb m)):Ym w' g R vs ns nb cost prev where
 cell p hp:=⟨f.cell (h.cell p hp).1 (h1 g (.inl rfl)),(f.frozen (h.cell p hp).1 (h1 g (.inl rfl))).trans (h.cell p hp).2⟩
 row p hp:=Zs (h.row p hp) f (λj e=>h1 j (.inr ⟨p,hp,e⟩))
 apart:=h.apart
 offg:=h.offg
 node m hm:=f.heap (h.node m hm) (h2 m hm)
 noff:=h.noff
 inj:=h.inj
theorem Ym.ext(h:Ym w g R vs ns nb cost prev)(f:Zf w w'):Ym w' g R vs ns nb cost prev:=h.keep f (λ_ _=>id) (λ_ _=>id)
theorem Ym.add{x:Nd}(h:Ym w g R vs ns nb (λ_=>0) (λ_=>none))(hf:x.fin<R){wa w3:World}{v':Value}{N:Nat}(hx:Zf w wa)(hN:w.heap.size<=N)(hnode:wa.heap[N]?=some (.cells (Xd x 0 none) 304 (0,0)))
  (ho:w3.ownsRow 0 301 1 v' ((LT.row ns x.fin).length+1) (((LT.row ns x.fin).map λm=>.pointer (some ⟨nb m,0,none⟩))++[.pointer (some ⟨N,0,none⟩)]))
  (hg:wa.grownBy w3 (vs x.fin).ownBlock) (hat:v'.ownBlock=(vs x.fin).ownBlock\/v'.ownBlock=some wa.heap.size) :
  Ym (w3.setCell ⟨g,x.fin,none⟩ v') g R (P7 vs x.fin v') (ns++[x]) (P7 nb ns.length N) (λ_=>0) (λ_=>none)/\Fr (Yt g R vs) w (w3.setCell ⟨g,x.fin,none⟩ v')/\(∀ j,Yt g R (P7 vs x.fin v') j->Yt g R vs j\/w.heap.size<=j):=by
 have hgl:g<w.heap.size:=lt_of_cell (h.cell _ hf).1;have hown:∀ p,p<R->∀ j,(vs p).ownBlock=some j->j<w.heap.size:=λp hp j e=>Ow (h.row p hp) e
 have hNa:N<wa.heap.size:=(Gs1.1 hnode).1;have F3a:Fr (λj=>(vs x.fin).ownBlock=some j) wa w3:=(Fl _).grown hg (λk e _=>e);have F3:Fr (λj=>(vs x.fin).ownBlock=some j) w w3:=Fr.trans (S:=λj=>(vs x.fin).ownBlock=some j) (hx.mono (λ_ _ e=>e.elim)) F3a (λj _ e=>e);have hgo:¬ (vs x.fin).ownBlock=some g:=h.offg _ hf;have hc3:w3.cell? ⟨g,x.fin,none⟩=some (vs x.fin):=F3.cell (h.cell _ hf).1 hgo
 have hnew:∀ j,v'.ownBlock=some j->(vs x.fin).ownBlock=some j\/j=wa.heap.size:=by
  intro j e;rcases hat with q|q
  ·left;rw[<- q];exact e
  ·right;rw[q]at e;exact (Option.some.inj e).symm
 have F4:Fr (λj=>j=g) w3 (w3.setCell ⟨g,x.fin,none⟩ v'):=(Fl _).setCell _ _ (λ_=>rfl);have vsx:∀ p,p≠x.fin->P7 vs x.fin v' p=vs p:=λp hp=>by unfold P7;rw[if_neg hp]
 have vsf:P7 vs x.fin v' x.fin=v':=by unfold P7;rw[if_pos rfl]
 have nbm:∀ m,m<ns.length->P7 nb ns.length N m=nb m:=λm hm=>by unfold P7;rw[if_neg Om]
 have nbn:P7 nb ns.length N ns.length=N:=by unfold P7;rw[if_pos rfl]
 have hxa:=hx.size
 have hgv:v'.ownBlock≠some g:=by
  intro e;rcases hnew g e with q|q
  ·exact hgo q
  ·omega
 have hvo:∀ p,p<R->p≠x.fin->∀ j,v'.ownBlock=some j->(vs p).ownBlock≠some j:=by
  intro p hp hne j e q;rcases hnew j e with r|r
  ·exact h.apart _ _ hf hp (Ne.symm hne) j r q
  ·have:=hown p hp j q;omega
 refine⟨⟨?_,?_,?_,?_,?_,?_,?_⟩,?_,?_⟩
 ·intro p hp;by_cases e:p=x.fin
  ·subst e;rw[vsf];exact⟨World.cell?_setCell_same' _ _ _ (by rw[hc3];rfl),by rw[World.frozen?_setCell];exact (F3.frozen (h.cell _ hf).1 hgo).trans (h.cell _ hf).2⟩
  ·rw[vsx p e];have hne:(⟨g,x.fin,none⟩:Addr)≠⟨g,p,none⟩:=by intro q;simp only[Addr.mk.injEq,true_and,and_true]at q;exact e q.symm
   exact⟨(World.cell?_setCell_other _ _ _ _ hne).trans (F3.cell (h.cell p hp).1 hgo),by rw[World.frozen?_setCell];exact (F3.frozen (h.cell p hp).1 hgo).trans (h.cell p hp).2⟩
 ·intro p hp;rw[Zhj];by_cases e:p=x.fin
  ·subst e;rw[vsf,if_pos rfl,List.length_append,List.map_append];have e1:(LT.row ns x.fin).map (λm=>Value.pointer (some ⟨P7 nb ns.length N m,0,none⟩))=(LT.row ns x.fin).map (λm=>Value.pointer (some ⟨nb m,0,none⟩)):=List.map_congr_left (λm hm=>by rw[nbm m (Zhk hm)]);rw[e1];simp only[List.map_cons,List.map_nil,nbn];exact Zs ho F4 (λj q r=>hgv (by rw[q,r]))
  ·rw[vsx p e,if_neg (λq=>e q.symm),List.append_nil];have e1:(LT.row ns p).map (λm=>Value.pointer (some ⟨P7 nb ns.length N m,0,none⟩))=(LT.row ns p).map (λm=>Value.pointer (some ⟨nb m,0,none⟩)):=List.map_congr_left (λm hm=>by rw[nbm m (Zhk hm)]);rw[e1];refine Zs (Zs (h.row p hp) F3 (λj q r=>h.apart _ _ hf hp (Ne.symm e) j r q)) F4 (λj q r=>h.offg p hp (by rw[q,r]))
 ·intro p q hp hq hpq j e1 e2;by_cases a:p=x.fin
  ·subst a;rw[vsf]at e1;rw[vsx q (Ne.symm hpq)]at e2;exact hvo q hq (Ne.symm hpq) j e1 e2
  ·rw[vsx p a]at e1;by_cases b:q=x.fin
   ·subst b;rw[vsf]at e2;exact hvo p hp a j e2 e1
   ·rw[vsx q b]at e2;exact h.apart p q hp hq hpq j e1 e2
 ·intro p hp e;by_cases a:p=x.fin
  ·subst a;rw[vsf]at e;exact hgv e
  ·rw[vsx p a]at e;exact h.offg p hp e
 ·intro m hm;rw[List.length_append,List.length_singleton]at hm;rcases Nat.lt_or_ge m ns.length with q|q
  ·have e0:(ns++[x]).getD m default=ns.getD m default:=(by simp only[List.getD_eq_getElem?_getD,List.getElem?_append_left q]);rw[nbm m q,e0];exact F4.heap (F3.heap (h.node m q) ((h.noff m q).2 _ hf)) ((h.noff m q).1)
  ·have:m=ns.length:=Om;subst this;have e0:(ns++[x]).getD ns.length default=x:=(by simp[List.getD_eq_getElem?_getD]);rw[nbn,e0];exact F4.heap (F3a.heap hnode (λe=>by have:=hown _ hf _ e;omega)) Om
 ·intro m hm;rw[List.length_append,List.length_singleton]at hm
  have key:∀ k,(k<w.heap.size->k≠g/\∀ p,p<R->(vs p).ownBlock≠some k)->k<wa.heap.size->k≠g/\∀ p,p<R->(P7 vs x.fin v' p).ownBlock≠some k:=by
   intro k hk hka
   have hk1:k≠g/\∀ p,p<R->(vs p).ownBlock≠some k:=by
    rcases Nat.lt_or_ge k w.heap.size with a|a
    ·exact hk a
    ·exact⟨Om,λp hp e=>by have:=hown p hp k e;omega⟩
   refine⟨hk1.1,λp hp e=>?_⟩;by_cases a:p=x.fin
   ·subst a;rw[vsf]at e;rcases hnew k e with r|r
    ·exact hk1.2 _ hf r
    ·omega
   ·rw[vsx p a]at e;exact hk1.2 p hp e
  rcases Nat.lt_or_ge m ns.length with q|q
  ·rw[nbm m q];refine key _ (λ_=>h.noff m q) ?_;have:=(Gs1.1 (h.node m q)).1;omega
  ·have:m=ns.length:=Om;subst this;rw[nbn];exact key N (λa=>Om) hNa
 ·intro m k hm hk e;rw[List.length_append,List.length_singleton]at hm hk;have lt:∀ m,m<ns.length->nb m<w.heap.size:=λm hm=>(Gs1.1 (h.node m hm)).1
  rcases Nat.lt_or_ge m ns.length with a|a<;>rcases Nat.lt_or_ge k ns.length with b|b
  ·rw[nbm m a,nbm k b]at e;exact h.inj m k a b e
  ·have:k=ns.length:=Om;subst this;rw[nbm m a,nbn]at e;have:=lt m a;omega
  ·have:m=ns.length:=Om;subst this;rw[nbm k b,nbn]at e;have:=lt k b;omega
  ·omega
 ·exact Fr.trans (S:=Yt g R vs) (F3.mono (λj _ e=>.inr ⟨_,hf,e⟩)) F4 (λj _ e=>.inl e)
 ·rintro j (rfl|⟨p,hp,e⟩)
  ·exact .inl (.inl rfl)
  ·by_cases a:p=x.fin
   ·subst a;rw[vsf]at e;rcases hnew j e with r|r
    ·exact .inl (.inr ⟨_,hf,r⟩)
    ·exact .inr Om
   ·rw[vsx p a]at e;exact .inl (.inr ⟨p,hp,e⟩)
theorem Z9{P:Program}{ops:Array Oper}{o:Oper}{a:Act}{w:World}{K:Act->World->Prop}{Q:Exit->Act->World->Prop}{E:Prop}
  (hg:o.guard=none) (s x:Operand) (t:TypeId) (hop:o.op=Op.call { callee:=Callee.builtin Builtin.append,args:=#[s,x],argTypes:=#[t,t] })
  (base:Nat) (e:TypeId) (i:TypeInfo) (z:Value) (size bytes:Nat) (h1:P.underlying t=some (.slice e)) (h2:P.info? e=some i) (h3:i.zero=some z) (h4:i.size=size) (h5:i.bytes=bytes) (h6:z.cells.size=size) (h7:0<size)
  (v:Value) (n:Nat) (xs:List Value) (hs:a.eval s=v) (hown:w.ownsRow base e size v n xs)
  (ad:Addr) (m c:Nat) (news:List Value) (hx:a.eval x=.slice (some ad) m c) (hn:news.length=m*size) (hc:∀ j u,news[j]?=some u->w.cell? (ad.add j)=some u) (h1c:∀ u∈news,u.oneCell'=true)
  (b1:n+m<=maxLen) (b2:(n+m)*bytes<=140737488355328) (hbase:base<=w.heap.size)
  (hK:∀ v' w',w'.ownsRow base e size v' (n+m) (xs++news)->w.grownBy w' v.ownBlock->(v'=.slice none 0 0↔v=.slice none 0 0/\m=0)->(v'.ownBlock=v.ownBlock\/v'.ownBlock=some w.heap.size)->K (a.put o.dst v') w') :
  if Region.wanted o (yielded ops a.tmps)=true then Oper.wp P o a w K Q else E:=by
 have hw:Region.wanted o (yielded ops a.tmps)=true:=by simp[Region.wanted,hg]
 rw[if_pos hw];obtain⟨v',w',hr,k2,k3,k4,k5⟩:=run_append_own_at (P:=P) w base t o.type e i z size bytes h1 h2 h3 h4 h5 h6 h7 v n xs hown ad m c news hn hc h1c b1 b2 hbase;unfold Oper.wp;simp only[execOp,hop,resolve,invoke,builtin,Sem.run_bind,Sem.run_pure,Result.andThen_ok,List.map_toArray,List.map_cons,List.map_nil,hs,hx,hr];exact hK v' w' k2 k3 k4 k5
theorem Iv{w2 w3:World}{o:Obj}{v u:Value}{a:Addr}(hc:w2.cell? a=some u)(hg:(w2.drew.alloc o).grownBy w3 v.ownBlock)(hne:v.ownBlock≠some a.block):w3.cell? a=some u/\w3.frozen? a=w2.frozen? a:=by
 have F:Fr (λj=>v.ownBlock=some j) w2 w3:=(((Fl w2).drew).alloc o).grown hg (λk e _=>e);exact⟨F.cell hc hne,F.frozen hc hne⟩
def Zem(w:World)(kl:Nat)(cls:Nat)(id:Int)(m:Wd):Prop :=
 ((cls=0\/cls=3)/\m=zeroM)\/∃ kd gm n c i:Nat,w.cell? ⟨kl,3,none⟩=some (.pointer (some ⟨kd,0,none⟩))/\id=(i:Int)/\i<n /\
  ((cls=1/\w.cell? ⟨kd,0,none⟩=some (.slice (some ⟨gm,0,none⟩) n c))\/(cls=2/\w.cell? ⟨kd,14,none⟩=some (.slice (some ⟨gm,0,none⟩) n c))) /\
  w.cell? ⟨gm,i*3,none⟩=some (.int .i16 m.lf)/\w.cell? ⟨gm,i*3+1,none⟩=some (.int .i16 m.rt)/\w.cell? ⟨gm,i*3+2,none⟩=some (.int .i16 m.wt) /\
  (-32768<=m.lf/\m.lf<=32767)/\(-32768<=m.rt/\m.rt<=32767)/\(-32768<=m.wt/\m.wt<=32767)
theorem Us(kl g R c:Nat)(vs:Nat->Value)(ns:List Nd)(nb:Nat->Nat)(x:Nd)(posp:Nat)(w:World)(hl:w.cell? ⟨kl,2,none⟩=some (.slice (some ⟨g,0,none⟩) R c))(hR:R<=1000000)
  (h:Ym w g R vs ns nb (λ_=>0) (λ_=>none)) (hkl:¬ Yt g R vs kl) (hn:ns.length<=1000000000) (hm:Zem w kl x.cls x.id x.m) (hs:x.surf.size<=1000000) (hp:x.fin=posp+Lib.runeCount x.surf) (hf:x.fin<R) (hpos:x.pos<=1000000/\x.start<=1000000) :
  Calls Tryz.prog 190 #[.pointer (some ⟨kl,0,none⟩),.int .i64 posp,.int .i64 x.id,.int .i64 x.pos,.int .i64 x.start,.int .i64 x.cls,.string x.surf] w λe w'=>e=.returned (.tuple #[])/\∃ vs' nb',Ym w' g R vs' (ns++[x]) nb' (λ_=>0) (λ_=>none)/\Fr (Yt g R vs) w w'/\(∀ j,Yt g R vs' j->Yt g R vs j\/w.heap.size<=j)/\(∀ m,m<ns.length->nb' m=nb m)/\w.heap.size<=nb' ns.length:=by
 have mixed:Tryz.prog.follows .mixedOrders=true:=Kr
 obtain⟨idn,pos,start,fin,cls,⟨lf,rt,wt⟩,surf⟩:=x;simp only at hm hs hp hf hpos⊢;have H:=Hd h;have lkl:kl<w.heap.size:=lt_of_cell hl;clear h;go_enter Tryz.func190,Tryz.ntmps190
 go_upto_block 0 with fail
 go_cut [] from 17 to 46 (λwx=>wx=w.alloc (.cells #[.int .i16 lf,.int .i16 rt,.int .i16 wt] 178))
 case first =>
  rcases hm with ⟨hcls,hm⟩|⟨kd,gm,n,cc,i,d3,rfl,hin,hcl,m1,m2,m3,b1,b2,b3⟩
  ·simp only[zeroM,Wd.mk.injEq]at hm;obtain⟨rfl,rfl,rfl⟩:=hm;rcases hcls with rfl|rfl
   all_goals (go_wp2_with fail;go_meet)
   all_goals rfl
  ·have lgm:gm<w.heap.size:=lt_of_cell m1;rcases hcl with ⟨rfl,d0⟩|⟨rfl,d0⟩
   all_goals have lkd:kd<w.heap.size:=lt_of_cell d0
   all_goals (go_wp2_with fail;go_meet)
   all_goals rfl
 case rest =>
  have hmr:(-32768<=lf/\lf<=32767)/\(-32768<=rt/\rt<=32767)/\(-32768<=wt/\wt<=32767):=by
   rcases hm with ⟨_,hm⟩|⟨_,_,_,_,_,_,_,_,_,_,_,_,b1,b2,b3⟩
   ·simp only[zeroM,Wd.mk.injEq]at hm;obtain⟨rfl,rfl,rfl⟩:=hm;exact⟨Om,Om,Om⟩
   ·exact⟨b1,b2,b3⟩
  obtain⟨⟨b1,b1'⟩,⟨b2,b2'⟩,⟨b3,b3'⟩⟩:=hmr;clear hm;subst hcut;go_step;go_upto_region 14 with fail
  go_cut [] from 67 to 84 (λwx=>wx=(w.drew.alloc (.cells #[.int .i16 lf,.int .i16 rt,.int .i16 wt] 178)).alloc (.cells #[(.int .i64 idn),.int .i64 pos,.int .i64 start,.int .i64 cls,.int .i32 0,.int .i32 lf,.int .i32 rt,.int .i32 wt,.string .empty,.pointer none] 304))
  case first =>
   have w1:IntKind.i32.wrap lf=lf:=by rw[IntKind.wrap_i32];omega
   have w2:IntKind.i32.wrap rt=rt:=by rw[IntKind.wrap_i32];omega
   have w3:IntKind.i32.wrap wt=wt:=by rw[IntKind.wrap_i32];omega
   go_big_region_o
   all_goals (go_wp2;go_meet)
   all_goals first|rfl|fail
  case rest =>
   clear b1 b1' b2 b2' b3 b3';subst hcut;obtain⟨q,hq⟩:∃ q,q=Lib.runeCount surf:=⟨_,rfl⟩;rw[<- hq]at hp;have hqs:q<=1000000:=by have:=Lib.runeCount_le surf;omega
   have hpz:(posp:Int)+(q:Int)=(fin:Int):=Om;have HPOS:=Hd hp;clear hp;go_step;go_upto_region 18 with (first|(go_at_call 162;refine (R3 surf _ Om).mono ?_;rw[<- hq];rintro e w2 ⟨rfl,hx⟩;have HX:=Hd hx;clear hx)|fail)
   rw[<- hq,hpz];obtain⟨N,hN⟩:∃ N,N=w.heap.size+1:=⟨_,rfl⟩;have X2:Zf w w2:=((((Fl w).alloc _).alloc _).drew).ext HX.out
   have hnode:w2.heap[N]?=some (.cells (Xd ⟨idn,pos,start,fin,cls,⟨lf,rt,wt⟩,surf⟩ 0 none) 304 (0,0)):=by
    refine HX.out.heap ?_ id;exact alloc_at' _ _ (by rw[hN,Za])
   have hl2:=X2.cell hl id;have H2:=Hd (H.out.ext X2);have c2:=(H2.out.cell fin hf).1;have f2:=(H2.out.cell fin hf).2;have HO:=Hd (H2.out.row fin hf);have lkl2:kl<w2.heap.size:=lt_of_cell hl2;have lg2:g<w2.heap.size:=lt_of_cell c2;have lN:N<w2.heap.size:=(Gs1.1 hnode).1;have HGO:=Hd (H2.out.offg fin hf);have HKO:Hid ((vs fin).ownBlock≠some kl):=λe=>hkl (.inr ⟨fin,hf,e⟩)
   rw[<- hN];have HNE:=Hd hN;have HND:=Hd hnode;have HX2:=Hd X2
   have hrl:(row ns fin).length<=1000000000:=by
    have:(row ns fin).length<=ns.length:=by unfold row;exact Nt (List.length_filter_le _ _) (by simp)
    omega
   obtain⟨ei,hei⟩:∃ i,Tryz.prog.info? 301=some i:=by
    cases h:Tryz.prog.info? 301 with
    | none =>
     have:(Tryz.prog.info? 301).isSome=true:=Kr;rw[h]at this;cases this
    | some i=>exact⟨i,rfl⟩
   have hei2:(Tryz.prog.info? 301).map (λi=>(i.zero,i.size,i.bytes))=some (some (.pointer none),1,8):=Kr;rw[hei]at hei2;simp only[Option.map_some,Option.some.injEq,Prod.mk.injEq]at hei2;obtain⟨ei1,ei2,ei3⟩:=hei2;clear hN hnode X2 HX hl lkl hq hpz;generalize hv:vs fin=v at c2 HO HGO HKO;have HV:=Hd hv;clear hv
   go_region_law (refine Z9 rfl _ _ 297 rfl 0 301 ei (.pointer none) 1 8 Tryz.underlying297 hei ei1 ei2 ei3 rfl (by decide) v (row ns fin).length _ rfl (HO.out.alloc _) ⟨w2.heap.size,0,none⟩ 1 1 [.pointer (some ⟨N,0,none⟩)] rfl rfl (Z0 _ _) (by intro u hu;rw[List.mem_singleton.1 hu];rfl) (by unfold maxLen;omega) Om (Nat.zero_le _) ?_;intro v' w3 hown' hgrow hnil' hat;obtain⟨A',cp',hv'⟩:=Zl hown';subst hv';have c3:=(Iv c2 hgrow HGO.out).1;have f3:=(Iv c2 hgrow HGO.out).2.trans f2;have hl3:=(Iv hl2 hgrow HKO.out).1;have HG:=Hd (Ai1 hown' (Ai1 hgrow hat));clear hown' hgrow hat hnil')
   all_goals go_end0
   all_goals
    obtain⟨a1,a2,a3⟩:=Ym.add (x:=⟨idn,pos,start,fin,cls,⟨lf,rt,wt⟩,surf⟩) H.out hf ((HX2.out.alloc _).drew) (by rw[HNE.out];exact Nat.le_succ _) (((Fe w2).alloc _).drew.heap HND.out (λq=>q)) HG.1 (by rw[HV.out];exact HG.2.1) (by rw[HV.out];exact HG.2.2);exact⟨rfl,_,_,a1,a2,a3,λm hm=>by unfold P7;rw[if_neg Om],by unfold P7;rw[if_pos rfl,HNE.out];omega⟩
end Go.Proofs.YtlfoalomaofejaaGreatDoor
