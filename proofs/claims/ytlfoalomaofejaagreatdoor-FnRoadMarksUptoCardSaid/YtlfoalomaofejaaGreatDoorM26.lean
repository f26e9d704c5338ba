/- lattice.Backward. -/
import Derived.Test.YtlfoalomaofejaaGreatDoorM23
import Derived.Test.YtlfoalomaofejaaGreatDoorM21
set_option linter.all false
set_option maxRecDepth 100000
set_option maxHeartbeats 4000000
namespace Go.Proofs.YtlfoalomaofejaaGreatDoor
open Go.RowKit LT
theorem D8:∃ i,Tryz.prog.info? 301=some i/\i.zero=some (.pointer none)/\i.size=1/\i.bytes=8:=by
 have h:(Tryz.prog.info? 301).map (λi=>(i.zero,i.size,i.bytes))=some (some (.pointer none),1,8):=Kr
 cases hi:Tryz.prog.info? 301 with
 | none=>rw[hi]at h;cases h
 | some i =>
  rw[hi]at h;simp only[Option.map_some,Option.some.injEq,Prod.mk.injEq]at h;exact⟨i,rfl,h⟩
abbrev ptrTo(b:Nat):Value:=.pointer (some ⟨b,0,none⟩)
def V8(H:Nat)(w:World)(v:Value)(bs:List (Nat×Nd)):Prop :=
 w.ownsRow H 301 1 v bs.length (bs.map λb=>ptrTo b.1)/\∀ b∈bs,∃ cost prev,(-2147483648<=cost/\cost<=2147483647)/\w.heap[b.1]?=some (.cells (Xm b.2 cost prev) 304 (0,0))
theorem V8.keep{H:Nat}{w w':World}{v:Value}{bs:List (Nat×Nd)}{S:Nat->Prop}(h:V8 H w v bs)(f:Fr S w w')(h1:∀ j,v.ownBlock=some j->¬ S j)(h2:∀ b∈bs,¬ S b.1):V8 H w' v bs :=
 ⟨Zr h.1 f h1,λb q=>by
  obtain⟨c,p,z,h⟩:=h.2 b q
  exact⟨c,p,z,f.heap h (h2 b q)⟩⟩
theorem V8.lt{H:Nat}{w:World}{v:Value}{bs:List (Nat×Nd)}(h:V8 H w v bs):∀ b∈bs,b.1<w.heap.size:=λb q=>by
 obtain⟨c,p,_,h⟩:=h.2 b q;exact (Gs1.1 h).1
theorem V8.snoc{H:Nat}{w wa w':World}{v G:Value}{bs:List (Nat×Nd)}(h:V8 H w v bs)(J:Zf w wa)(b:Nat×Nd)(cost:Int)(prev:Option Nat)(A:-2147483648<=cost/\cost<=2147483647)(M:wa.heap[b.1]?=some (.cells (Xm b.2 cost prev) 304 (0,0)))
  (K:w'.ownsRow H 301 1 G (bs.length+1) (bs.map (λb=>ptrTo b.1)++[ptrTo b.1])) (L:wa.grownBy w' v.ownBlock) (I:∀ x∈b::bs,v.ownBlock≠some x.1):V8 H w' G (bs++[b]):=by
 have F:Fr (λj=>v.ownBlock=some j) wa w':=(Fl _).grown L (λk e _=>e);refine⟨by rw[List.length_append,List.map_append];exact K,λx z=>?_⟩;rcases List.mem_append.1 z with q|q
 ·obtain⟨c,p,A,h2⟩:=h.2 x q;exact⟨c,p,A,F.heap (J.heap h2 id) (I x (by simp[q]))⟩
 ·rw[List.mem_singleton.1 q];exact⟨cost,prev,A,F.heap M (I b (by simp))⟩
theorem cell_two_new(w:World)(o:Obj)(x:Value)(t:TypeId):∀ j u,[x][j]?=some u->((w.alloc o).alloc (.cells #[x] t)).drew.cell? ((⟨w.heap.size+1,0,none⟩:Addr).add j)=some u:=λj u h=>by
 have:=cell_one_new (w.alloc o) x t j u h;rw[Za]at this;exact this
abbrev Tl(s:ByteArray)(vo:Value)(g R c:Nat)(pd pu:Value):Array Value:=#[.string s,vo,.slice (some ⟨g,0,none⟩) R c,pd,pu]
structure Zkz(x:Nd):Prop where
 valid:Lib.validD x.surf.data.toList=true
 size:x.surf.size<=1000
 pos:x.pos<=1000000
 start:x.start<=1000000
 id:-1<=x.id/\x.id<=1000000
structure BW(kl g R c:Nat)(vs:Nat->Value)(ns:List Nd)(nb:Nat->Nat)(cost:Nat->Int)(prev:Nat->Option Nat)(s:ByteArray)(pd pu:Value)(w0:World)(all rest:List Nd)(vo:Value)(bs:List (Nat×Nd))(w:World):Prop where
 lat:w.heap[kl]?=some (.cells (Tl s vo g R c pd pu) 300 (0,0))
 out:V8 w0.heap.size w vo bs
 eq:bs.map (·.2)++rest=all
 off:∀ b∈bs,vo.ownBlock≠some b.1/\b.1≠kl
 rows:Yp w g R vs ns nb cost prev
 fr:Fr (λj=>j=kl) w0 w
section
variable{kl g R c:Nat}{vs:Nat->Value}{ns:List Nd}{nb:Nat->Nat}{cost:Nat->Int}{prev:Nat->Option Nat}{s:ByteArray}{pd pu:Value}{w0:World}{all rest:List Nd}{vo:Value}{bs:List (Nat×Nd)}{w w':World}
theorem BW.ext(h:BW kl g R c vs ns nb cost prev s pd pu w0 all rest vo bs w)(f:Zf w w'):BW kl g R c vs ns nb cost prev s pd pu w0 all rest vo bs w' :=
 ⟨f.heap h.lat id,h.out.keep f (λ_ _=>id) (λ_ _=>id),h.eq,h.off,h.rows.ext f,h.fr.ext f⟩
structure BL(kl g R:Nat)(vs:Nat->Value)(ns:List Nd)(nb:Nat->Nat)(w0:World):Prop where
 at0:kl<w0.heap.size
 own:∀ j,Yz g R vs j->j<w0.heap.size/\j≠kl
 node:∀ m,m<ns.length->nb m<w0.heap.size/\nb m≠kl
theorem BW.put(h:BW kl g R c vs ns nb cost prev s pd pu w0 all rest vo bs w)(L:BL kl g R vs ns nb w0){wa:World}(hx:Zf w wa)(b:Nat×Nd)(I:Int)(prv:Option Nat)(hc:-2147483648<=I/\I<=2147483647)(hb:wa.heap[b.1]?=some (.cells (Xm b.2 I prv) 304 (0,0)))
  (X:b.1≠kl) (W:vo.ownBlock≠some b.1) (ab:b.1<wa.heap.size) {J:Value} {K:World} (ho:K.ownsRow w0.heap.size 301 1 J (bs.length+1) (bs.map (λb=>ptrTo b.1)++[ptrTo b.1])) (hg:wa.grownBy K vo.ownBlock) (ac:J.ownBlock=vo.ownBlock\/J.ownBlock=some wa.heap.size) (z:List Nd) (hr:rest=b.2::z) :
  BW kl g R c vs ns nb cost prev s pd pu w0 all z J (bs++[b]) (K.setCell ⟨kl,1,none⟩ J):=by
 have G:=h.out.1.lt;have F1:Fr (λj=>vo.ownBlock=some j) w K:=Fr.grown (hx.mono (S':=λj=>vo.ownBlock=some j) (λ_ _ e=>e.elim)) hg (λk e _=>e);have F2:Fr (λj=>j=kl) K (K.setCell ⟨kl,1,none⟩ J):=(Fl _).setCell _ _ (λ_=>rfl);have V:vo.ownBlock≠some kl:=λe=>by have:=G kl e;have:=L.at0;omega
 have ad:=hx.size;have ae:=h.fr.size
 have U:∀ j,J.ownBlock=some j->vo.ownBlock=some j\/j=wa.heap.size:=λj e=>by
  rcases ac with q|q
  ·left;rw[<- q];exact e
  ·right;rw[q]at e;exact (Option.some.inj e).symm
 have aa:=h.out.lt;refine⟨?_,?_,?_,?_,?_,?_⟩
 ·exact Yx (F1.heap h.lat V) 1 J
 ·refine V8.keep (V8.snoc h.out hx b I prv hc hb ho hg ?_) F2 ?_ ?_
  ·intro x A;rcases List.mem_cons.1 A with rfl|q
   ·exact W
   ·exact (h.off x q).1
  ·intro j e q;have hq:=L.at0;rcases U j e with Z|Z
   ·rw[q]at Z;exact V Z
   ·omega
  ·intro x A q;rcases List.mem_append.1 A with r|r
   ·exact (h.off x r).2 q
   ·rw[List.mem_singleton.1 r]at q;exact X q
 ·rw[List.map_append,List.map_singleton,List.append_assoc,List.singleton_append,<- hr];exact h.eq
 ·intro x A
  have M:x.1<wa.heap.size/\vo.ownBlock≠some x.1/\x.1≠kl:=by
   rcases List.mem_append.1 A with r|r
   ·exact⟨by have:=aa x r;omega,h.off x r⟩
   ·rw[List.mem_singleton.1 r];exact⟨ab,W,X⟩
  refine⟨λe=>?_,M.2.2⟩;rcases U _ e with q|q
  ·exact M.2.1 q
  ·omega
 ·refine (h.rows.keep F1 (λj Y e=>?_) (λm hm e=>?_)).keep F2 (λj Y=>(L.own j Y).2) (λm hm=>(L.node m hm).2)
  ·have:=G j e;have:=(L.own j Y).1;omega
  ·have:=G _ e;have:=(L.node m hm).1;omega
 ·exact Fr.trans (S:=λj=>j=kl) (h.fr.trans F1 (λj Y e=>by have:=G j e;omega)) F2 (λj _ e=>e)
end
structure SK(x:Nd)(ib:Nat)(w0:World)(sv:Value)(nbs:List Nat)(w:World):Prop where
 it:w.heap[ib]?=some (.stringIter x.surf (bp (Zd x.surf) nbs.length))
 st:w.ownsRow w0.heap.size 301 1 sv nbs.length (nbs.map ptrTo)
 nd:∀ k (h:k<nbs.length),w.heap[nbs[k]]?=some (.cells (Xm (Pd x k) 0 none) 304 (0,0))/\w0.heap.size<=nbs[k]/\nbs[k]≠ib/\sv.ownBlock≠some nbs[k]
 off:sv.ownBlock≠some ib
 ib0:w0.heap.size<=ib
 fr:Zf w0 w
theorem SK.step{x:Nd}{L:Nat}{w0 w wa V:World}{K A:Value}{z:List Nat}(h:SK x L w0 K z w){N:Nat}(I:Fr (λj=>j=L) w wa)(hN:w.heap.size<=N)(G:wa.heap[N]?=some (.cells (Xm (Pd x z.length) 0 none) 304 (0,0)))
  (W:wa.heap[L]?=some (.stringIter x.surf (bp (Zd x.surf) (z.length+1)))) (Z:V.ownsRow w0.heap.size 301 1 A (z.length+1) (z.map ptrTo++[ptrTo N])) (hg:wa.grownBy V K.ownBlock) (X:A.ownBlock=K.ownBlock\/A.ownBlock=some wa.heap.size) :
  SK x L w0 A (z++[N]) V:=by
 have F:Fr (λj=>K.ownBlock=some j) wa V:=(Fl _).grown hg (λk e _=>e);have ac:N<wa.heap.size:=(Gs1.1 G).1;have ab:L<w.heap.size:=(Gs1.1 h.it).1;have Y:=I.size;have M:=h.st.lt;have h0:=h.fr.size;have U:K.ownBlock≠some N:=λe=>by have:=(M N e).2;omega
 have J:∀ j,A.ownBlock=some j->K.ownBlock=some j\/j=wa.heap.size:=λj e=>by
  rcases X with q|q
  ·left;rw[<- q];exact e
  ·right;rw[q]at e;exact (Option.some.inj e).symm
 refine⟨?_,by rw[List.length_append,List.map_append];exact Z,?_,?_,h.ib0,?_⟩
 ·rw[List.length_append,List.length_singleton];exact F.heap W h.off
 ·intro k hk;rw[List.length_append,List.length_singleton]at hk;rcases Nat.lt_or_ge k z.length with q|q
  ·obtain⟨a,b,c,e⟩:=h.nd k q;have aa:z[k]<w.heap.size:=(Gs1.1 a).1;rw[List.getElem_append_left q];refine⟨F.heap (I.heap a c) e,b,c,λr=>?_⟩;rcases J _ r with r|r
   ·exact e r
   ·omega
  ·have ek:k=z.length:=Om;subst ek;rw[List.getElem_append_right Om];simp only[Nat.sub_self,List.getElem_cons_zero];refine⟨F.heap G U,Om,Om,λr=>?_⟩;rcases J _ r with r|r
   ·exact U r
   ·omega
 ·intro r;rcases J _ r with r|r
  ·exact h.off r
  ·omega
 ·exact (h.fr.trans I (λj hj e=>by have:=h.ib0;omega)).trans F (λj hj e=>by have:=(M j e).1;omega)
structure SJ(x:Nd)(kl H:Nat)(sv:Value)(nbs:List Nat)(vo:Value)(w:World):Prop where
 st:w.ownsRow H 301 1 sv nbs.length (nbs.map ptrTo)
 nd:∀ k (h:k<nbs.length),w.heap[nbs[k]]?=some (.cells (Xm (Pd x k) 0 none) 304 (0,0))/\nbs[k]≠kl/\vo.ownBlock≠some nbs[k]
 off:∀ j,sv.ownBlock=some j->vo.ownBlock≠some j/\j≠kl
theorem SJ.put{x:Nd}{kl H:Nat}{K:Value}{z:List Nat}{vo A:Value}{w wa G:World}(h:SJ x kl H K z vo w)(L:Zf w wa)(Y:wa.grownBy G vo.ownBlock)(J:A.ownBlock=vo.ownBlock\/A.ownBlock=some wa.heap.size):SJ x kl H K z A (G.setCell ⟨kl,1,none⟩ A):=by
 have U:Fr (λj=>vo.ownBlock=some j) w G:=Fr.grown (L.mono (S':=λj=>vo.ownBlock=some j) (λ_ _ e=>e.elim)) Y (λk e _=>e);have M:Fr (λj=>j=kl) G (G.setCell ⟨kl,1,none⟩ A):=(Fl _).setCell _ _ (λ_=>rfl);have W:=L.size
 have I:∀ j,j<wa.heap.size->vo.ownBlock≠some j->A.ownBlock≠some j:=λj Z V e=>by
  rcases J with q|q
  ·rw[q]at e;exact V e
  ·rw[q]at e;have:=Option.some.inj e;omega
 refine⟨Zr (Zr h.st U (λj e=>(h.off j e).1)) M (λj e=>(h.off j e).2),λk X=>?_,λj e=>⟨I j ?_ (h.off j e).1,(h.off j e).2⟩⟩
 ·obtain⟨a,b,c⟩:=h.nd k X;have hl:z[k]<w.heap.size:=(Gs1.1 a).1;exact⟨M.heap (U.heap a c) b,b,I _ Om c⟩
 ·have:=O7 h.st e;omega
theorem Zir{α:Type}(f:Nat->α)(q j:Nat)(h:j<q):((List.range q).map f).reverse.drop j=f (q-1-j)::((List.range q).map f).reverse.drop (j+1):=by
 have hl:j<((List.range q).map f).reverse.length:=by simpa using h
 rw[List.drop_eq_getElem_cons hl];congr 1;rw[List.getElem_reverse];simp
theorem Qk{α β:Type}(f:α->List β)(k:Nat):∀ l:List α,(∀ x∈l,(f x).length<=k)->(l.flatMap f).length<=l.length*k
 | [],_=>by simp
 | x::l,h=>by
  have:=Qk f k l (λy q=>h y (by simp[q]));have h1:=h x (by simp);simp only[List.flatMap_cons,List.length_append,List.length_cons,Nat.add_mul,Nat.one_mul];omega
theorem O8(q:Int)(x:Nd)(h:x.surf.size<=1000):(Xf q x).length<=1000:=by
 unfold Xf
 split
 ·simp
 ·rw[List.length_reverse,List.length_map,List.length_range,<- Tz];have:=Lib.runeCount_le x.surf;omega
theorem Ju{ns:List Nd}{prev:Nat->Option Nat}(R t0:Nat)(h:(ns.getD t0 default).fin+1=R):(Tc ns prev (some t0)).length<=R:=by
 rw[<- h];exact Zec (ns:=ns) _ _
theorem Zmv(kl g R c:Nat)(vs:Nat->Value)(ns:List Nd)(nb:Nat->Nat)(cost:Nat->Int)(prev:Nat->Option Nat)(J:Int)(s:ByteArray)(pd pu:Value)(t0:Nat)(w:World)
  (ao:w.heap[kl]?=some (.cells (Tl s (.slice none 0 0) g R c pd pu) 300 (0,0))) (h:Yp w g R vs ns nb cost prev) (b3:∀ m,m<ns.length->nb m≠kl) (b2:¬ Yz g R vs kl)
  (hR:1<=R) (el:R<=1000000) (ak:(LT.row ns (R-1))[0]?=some t0) (hd:Zhu ns prev) (hx:∀ x∈ns,Zkz x) (co:∀ m,-2147483648<=cost m/\cost m<=2147483647) :
  Calls Tryz.prog 161 #[.pointer (some ⟨kl,0,none⟩),.int .i64 J] w λe w'=>e=.returned (.tuple #[])/\∃ vo bs,BW kl g R c vs ns nb cost prev s pd pu w ((Tc ns prev (some t0)).flatMap λm=>Xf J (ns.getD m default)) [] vo bs w':=by
 have mixed:Tryz.prog.follows .mixedOrders=true:=Kr
 obtain⟨ei,ar,a1,az,ay⟩:=D8;obtain⟨aj,bh⟩:=Vt (List.mem_of_getElem? ak);have ac:=Ju (ns:=ns) (prev:=prev) R t0 (by rw[bh];omega)
 have av:((Tc ns prev (some t0)).flatMap (λm=>Xf J (ns.getD m default))).length<=R*1000:=by
  refine Nt (Qk _ 1000 _ (λm hm=>O8 J _ ?_)) (Nat.mul_le_mul_right _ ac);have cm:=P3 hd _ _ aj m hm;have e:ns.getD m default=ns[m]:=by rw[List.getD_eq_getElem?_getD,Ge cm];rfl
  rw[e];exact (hx _ (List.getElem_mem cm)).size
 have ag:Hid (BL kl g R vs ns nb w):=⟨(Gs1.1 ao).1,λj hj=>⟨h.lt Om j hj,λe=>b2 (by rw[<- e];exact hj)⟩,λm hm=>⟨(Gs1.1 (h.node m hm)).1,b3 m hm⟩⟩;obtain⟨all,b6⟩:∃ all,all=(Tc ns prev (some t0)).flatMap λm=>Xf J (ns.getD m default):=⟨_,rfl⟩
 rw[<- b6]at av⊢
 have c6:Hid (BW kl g R c vs ns nb cost prev s pd pu w all ((Tc ns prev (some t0)).flatMap λm=>Xf J (ns.getD m default)) (.slice none 0 0) [] w) :=
  ⟨ao,⟨World.ownsRow_nil _ _ _ _,λb hb=>by cases hb⟩,b6.symm,(λb hb=>by cases hb),h,Fl _⟩
 have k2:w.cell? ⟨kl,2,none⟩=some (.slice (some ⟨g,0,none⟩) R c):=Zb ao 2 _ rfl;obtain⟨gr,cr,cz,ca⟩:=h.getElem (R-1) Om 0 (Gl.1 ak).1;have bf:w.cell? ⟨g,R-1,none⟩=some (.slice (some ⟨gr,0,none⟩) (LT.row ns (R-1)).length cr):=by rw[<- cz];exact (h.cell (R-1) Om).1
 have dn:0<(LT.row ns (R-1)).length:=(Gl.1 ak).1;have cy:(LT.row ns (R-1))[0]=t0:=(Gl.1 ak).2;rw[cy]at ca;obtain⟨lr,b1⟩:∃ lr,lr=(LT.row ns (R-1)).length:=⟨_,rfl⟩;rw[<- b1]at dn bf;have ek:¬ (R:Int)=0:=Om
 have dt:IntKind.i64.wrap ((R:Int)-1)=((R-1:Nat):Int):=by rw[IntKind.wrap_i64];omega
 have cx:(R:Int)-1=((R-1:Nat):Int):=Om
 have cw:((R-1:Nat):Int)<(R:Int):=Om
 obtain⟨R1,ax⟩:∃ R1,R1=R-1:=⟨_,rfl⟩;rw[<- ax]at bf dt cx cw;have HX:=Hd (Ai1 hd (Ai1 hx (Ai1 co (Ai1 b3 (Ai1 b2 av)))));have HT:=Hd (Ai1 aj ac);have H1:=Hd (Ai1 ax b1);have a7:=lt_of_cell k2;have lg:=lt_of_cell bf;have dh:=lt_of_cell ca;clear h ao b3 b2 hd hx co av b6 ak aj bh ac cz cy b1 ax;go_enter Tryz.func161,Tryz.ntmps161
 go_wp2_with fail
 go_loopg [5] R (λg1 v5 wr=>∃ (t:Option Nat) (vo:Value) (bs:List (Nat×Nd)),v5=.pointer (t.map λt=>⟨nb t,0,none⟩)/\(Tc ns prev t).length<=g1/\Hid ((∀ t',t=some t'->t'<ns.length)/\BW kl g R c vs ns nb cost prev s pd pu w all ((Tc ns prev t).flatMap λm=>Xf J (ns.getD m default)) vo bs wr))
 case atStart=>exact⟨some t0,_,_,rfl,HT.out.2,λt' e=>by rw[<- Option.some.inj e];exact HT.out.1,c6.out⟩
 case round =>
  clear c6 k2 ca bf a7 lg dh;obtain⟨t,vo,bs,rfl,cn,HB⟩:=hrel
  cases t with
  | none =>
   go_wp2_with fail
   go_end0
   exact⟨rfl,vo,bs,HB.out.2⟩
  | some t =>
   have ah:=Zfr HX.out.1 t;rw[ah]at cn;have bl:=Hd ah;simp only[List.length_cons]at cn;have ai:=HB.out.1 t rfl;obtain⟨x,a8⟩:∃ x,x=ns.getD t default:=⟨_,rfl⟩
   have bn:x∈ns:=by
    rw[a8,List.getD_eq_getElem?_getD,Ge ai];exact List.getElem_mem ai
   have ci:=HX.out.2.1 x bn;obtain⟨a0,b0⟩:True/\True:=⟨trivial,trivial⟩;have G:=HB.out.2.rows.node t ai;rw[<- a8]at G;have n0:wr.cell? ⟨nb t,0,none⟩=some (.int .i64 x.id):=Zb G 0 _ rfl;have n1:wr.cell? ⟨nb t,1,none⟩=some (.int .i64 x.pos):=Zb G 1 _ rfl;have n2:wr.cell? ⟨nb t,2,none⟩=some (.int .i64 x.start):=Zb G 2 _ rfl;have n3:wr.cell? ⟨nb t,3,none⟩=some (.int .i64 x.cls):=Zb G 3 _ rfl;have n8:wr.cell? ⟨nb t,8,none⟩=some (.string x.surf):=Zb G 8 _ rfl
   have n9:wr.cell? ⟨nb t,9,none⟩=some (.pointer ((prev t).map λb=>⟨nb b,0,none⟩)):=by
    rw[show ((prev t).map λb=>(⟨nb b,0,none⟩:Addr))=((prev t).map nb).map (λb=>⟨b,0,none⟩) by cases prev t<;>rfl];exact Zb G 9 _ rfl
   have k1:wr.cell? ⟨kl,1,none⟩=some vo:=Zb HB.out.2.lat 1 _ rfl;have fk:∀ j,wr.frozen? ⟨kl,j,none⟩=false:=λj=>by simp[World.frozen?,HB.out.2.lat]
   have a7:=lt_of_cell k1;have dc:=lt_of_cell n0;have HN:=Hd (Ai1 a8 (Ai1 bn (Ai1 G ci)));have c2:=Hd ai;clear a8 bn G ci ai ah a0 b0
   have eh:bs.length<=1000000000:=by
    have:=congrArg List.length HB.out.2.eq;rw[List.length_append,List.length_map]at this;have:=HX.out.2.2.2.2.2;omega
   have ds:w.heap.size<=wr.heap.size:=HB.out.2.fr.size;by_cases hm:J≠3\/x.cls≠2
   ·have HM:Hid ((Tc ns prev (some t)).flatMap (λm=>Xf J (ns.getD m default))=x::(Tc ns prev (prev t)).flatMap (λm=>Xf J (ns.getD m default))):=by
     show _=_;rw[bl.out,List.flatMap_cons,<- HN.out.1];unfold Xf;rw[if_pos hm];rfl
    have bm:Hid (∀ v' V,V.ownsRow w.heap.size 301 1 v' (bs.length+1) (bs.map (λb=>ptrTo b.1)++[ptrTo (nb t)])->(wr.alloc (.cells #[ptrTo (nb t)] 301)).grownBy V vo.ownBlock->(v'.ownBlock=vo.ownBlock\/v'.ownBlock=some (wr.alloc (.cells #[ptrTo (nb t)] 301)).heap.size) ->
      (V.cell? ⟨kl,1,none⟩=some vo/\V.frozen? ⟨kl,1,none⟩=false/\V.cell? ⟨nb t,9,none⟩=some (.pointer ((prev t).map λb=>⟨nb b,0,none⟩))/\kl<V.heap.size/\nb t<V.heap.size)/\BW kl g R c vs ns nb cost prev s pd pu w all ((Tc ns prev (prev t)).flatMap λm=>Xf J (ns.getD m default)) v' (bs++[(nb t,x)]) (V.setCell ⟨kl,1,none⟩ v')):=by
     intro v' V ho hg U;have cj:=HB.out.2.out.1.lt;have dl:=ag.out.node t c2.out;have ao:=ag.out.at0;have X:Zf wr (wr.alloc (.cells #[ptrTo (nb t)] 301)):=(Fl wr).alloc _;have F1:Fr (λj=>vo.ownBlock=some j) wr V:=Fr.grown (X.mono (S':=λj=>vo.ownBlock=some j) (λ_ _ e=>e.elim)) hg (λk e _=>e);have cp:vo.ownBlock≠some (nb t):=λe=>by have:=cj _ e;omega
     have am:vo.ownBlock≠some kl:=λe=>by have:=cj _ e;omega
     refine⟨⟨F1.cell k1 am,(F1.frozen k1 am).trans (fk 1),F1.cell n9 cp,by have:=F1.size;omega,by have:=F1.size;omega⟩,?_⟩;exact HB.out.2.put ag.out X (nb t,x) (cost t) ((prev t).map nb) (HX.out.2.2.1 t) (X.heap HN.out.2.2.1 id) dl.2 cp (by simp;omega) ho hg U _ HM.out
    have HP:Hid (∀ t',prev t=some t'->t'<ns.length):=λt' e=>(HX.out.1 t t' e).1
    have af:=Hd HB.out.2.out.1;have bc:=fk 1;clear fk;by_cases bz:J=3
    ·subst bz;have bd:¬ x.cls=2:=Om;have dr:((x.cls:Int) != 2)=true:=by simp;omega
     clear hm;go_wp2_with (first|(at_builtin;refine wpList_append_own_at _ rfl _ _ 297 rfl w.heap.size 301 ei (.pointer none) 1 8 Tryz.underlying297 ar a1 az ay rfl (by decide) vo bs.length _ rfl (af.out.alloc _) ⟨wr.heap.size,0,none⟩ 1 1 [ptrTo (nb t)] rfl rfl (cell_one_new _ _ _) (by simp[Value.oneCell']) (by unfold maxLen;omega) Om (by simp;omega) ?_;intro v' V z A M U;have HE:=Hd (bm.out v' V z A U);obtain⟨c1,f1,db,dg,df⟩:=HE.out.1;obtain⟨A1,c0,rfl⟩:=Zm z;clear z A M U)|fail)
     go_roundg (Tc ns prev (prev t)).length
     case measure=>omega
     case rel=>exact⟨prev t,_,_,rfl,Nl _,HP.out,HE.out.2⟩
    ·have ef:(J != 3)=true:=by simp;omega
     clear hm;go_wp2_with (first|(at_builtin;refine wpList_append_own_at _ rfl _ _ 297 rfl w.heap.size 301 ei (.pointer none) 1 8 Tryz.underlying297 ar a1 az ay rfl (by decide) vo bs.length _ rfl (af.out.alloc _) ⟨wr.heap.size,0,none⟩ 1 1 [ptrTo (nb t)] rfl rfl (cell_one_new _ _ _) (by simp[Value.oneCell']) (by unfold maxLen;omega) Om (by simp;omega) ?_;intro v' V z A M U;have HE:=Hd (bm.out v' V z A U);obtain⟨c1,f1,db,dg,df⟩:=HE.out.1;obtain⟨A1,c0,rfl⟩:=Zm z;clear z A M U)|fail)
     go_roundg (Tc ns prev (prev t)).length
     case measure=>omega
     case rel=>exact⟨prev t,_,_,rfl,Nl _,HP.out,HE.out.2⟩
   ·have bz:J=3:=Om;have bd:x.cls=2:=Om;subst bz;obtain⟨wo,dj⟩:∃ wo,wo=wr:=⟨_,rfl⟩;subst dj;have dr:((x.cls:Int) != 2)=false:=(by simp[bd]);have aq:∀ c∈Zd x.surf,UC.Good c:=UC.valid_good HN.out.2.2.2.valid;have d3:=HN.out.2.2.2.size;have dz:=HN.out.2.2.2.pos;have c8:=HN.out.2.2.2.start;obtain⟨q,hq⟩:∃ q,q=(Zd x.surf).length:=⟨_,rfl⟩;have C1:=λW=>Sv x.surf W Om
    rw[Tz,<- hq]at C1;have d5:q<=1000:=by have:=Lib.runeCount_le x.surf;rw[Tz]at this;omega
    have HQ:=Hd (Ai1 hq aq);have dy:=Hd bd;clear hm aq hq bd
    have dm:∀ W:World,(Instr.makeSlice 297 (.int .i64 0) (.int .i64 (q:Int))).run Tryz.prog W=.ok (.slice (some ⟨W.heap.size,0,none⟩) 0 q) (W.alloc (.cells (madeCells #[.pointer none] q) 301)):=λW=>by
     have:=run_make (P:=Tryz.prog) W 297 301 ei _ Tryz.underlying297 ar a1 .i64 .i64 0 (q:Nat) Om Om (by rw[ay];omega) Om;rw[az]at this;simpa [Value.cells] using this
    go_wp2_with (first|(go_at_call 162;refine (C1 _).mono ?_;rintro e W2 ⟨rfl,bo⟩;have cb:=Hd bo;have ch:=bo.cell n8 id;have de:=lt_of_cell ch;clear bo)|fail)
    obtain⟨ib,b4⟩:∃ ib,ib=W2.heap.size+1:=⟨_,rfl⟩;have X2:Zf wo ((W2.alloc (.cells (madeCells #[.pointer none] q) 301)).alloc (.stringIter x.surf 0)):=(cb.out.alloc _).alloc _
    have c3:Hid (SK x ib wo (.slice (some ⟨W2.heap.size,0,none⟩) 0 q) [] ((W2.alloc (.cells (madeCells #[.pointer none] q) 301)).alloc (.stringIter x.surf 0))):=by
     have h2:=cb.out.size;refine⟨?_,?_,λk h=>by simp at h,?_,Om,X2⟩
     ·rw[b4];exact alloc_at' _ _ (by rw[Za])
     ·exact (World.ownsRow_made W2 _ q h2 (by unfold maxLen;omega) (by simp[madeCells])).alloc _
     ·intro e;have:W2.heap.size=ib:=Option.some.inj e;omega
    have di:=X2.cell n1 id;rw[<- b4];have HC:=Hd (Ai1 n0 (Ai1 n1 (Ai1 n2 (Ai1 n9 (Ai1 k1 fk)))));clear dm X2 di ch de n0 n1 n2 n3 n8 n9 k1 fk a7
    go_loopg [7,8] q (λg2 v7 v8 wr=>∃ (sv:Value) (I:List Nat),v7=sv/\v8=.int .i64 (I.length:Int)/\I.length<=q/\q<=I.length+g2/\Hid (SK x ib wo sv I wr))
    case atStart=>exact⟨_,[],rfl,rfl,by simp,by simp,c3⟩
    case round =>
     clear c3 cb b4;obtain⟨sv,I,rfl,rfl,hi,ee,HS⟩:=hrel;by_cases d7:I.length<q
     ·obtain⟨i,ad⟩:∃ i,i=I.length:=⟨_,rfl⟩;have ap:i<(Zd x.surf).length:=by rw[<- HQ.out.1];omega
      have au:=Zkh HQ.out.2 i ap;have b5:=HQ.out.2 _ (List.getElem_mem ap);have cq:=Mw (Zd x.surf) i ap;have ct:=My x.surf (i+1);have dq:0<(Zd x.surf)[i].length:=List.length_pos_iff.2 b5.1;have ab:=HS.out.it;rw[<- ad]at ab;have ck:bp (Zd x.surf) i<x.surf.size:=Om;have al:=λty=>Pm (P:=Tryz.prog) ab ty ck
      rw[au]at al;obtain⟨r,hr⟩:∃ r,r=Xi (Zd x.surf)[i]:=⟨_,rfl⟩;have d4:r<=1114111:=by have:=Lib.rune_le x.surf (bp (Zd x.surf) i);rw[au]at this;rw[hr];exact this
      obtain⟨pb,bb⟩:∃ pb,pb=bp (Zd x.surf) i:=⟨_,rfl⟩;have d0:pb<=1000:=Om;simp only[<- hr,<- bb]at al;obtain⟨pn,bq⟩:∃ pn,pn=bp (Zd x.surf) (i+1):=⟨_,rfl⟩;have bk:pb+(Zd x.surf)[i].length=pn:=by rw[bb,bq];exact cq.symm
      simp only[bk]at al
      have c4:Hid (Utf8.encode (r:Int)=⟨((Zd x.surf).getD i []).toArray⟩):=by
       show _=_;rw[hr,List.getD_eq_getElem?_getD,Ge ap];exact UC.enc_good b5
      have FI:Fr (λj=>j=ib) wr (Wi wr ib x.surf pn):=Tn _ _ _ _;have II:=Pu pn ab;have a6:nb t≠ib:=by have:=HS.out.ib0;omega
      have n0:=FI.cell (HS.out.fr.cell HC.out.1 id) a6;have n1:=FI.cell (HS.out.fr.cell HC.out.2.1 id) a6;have n2:=FI.cell (HS.out.fr.cell HC.out.2.2.1 id) a6;have ln:=lt_of_cell n0;have HI:=Hd (Ai1 ad (Ai1 bb (Ai1 bq (Ai1 FI II))));have eb:i<=1000:=Om;rw[<- ad];clear ap au b5 cq bk ct dq ab ck hr bb bq FI II a6 ad;go_upto_region 13 with fail
      have y1:IntKind.i64.wrap ((x.start:Int)+(i:Int))=(x.start:Int)+(i:Int):=by rw[IntKind.wrap_i64];omega
      have y2:IntKind.i64.wrap ((x.pos:Int)+(pb:Int))=(x.pos:Int)+(pb:Int):=by rw[IntKind.wrap_i64];omega
      have HW:=Hd (Zr HS.out.st HI.out.2.2.2.1 (λj e q=>HS.out.off (by rw[e,q])));generalize Wi wr ib x.surf pn=L at HI n0 n1 n2 ln HW⊢;have HW:Hid (∀ Y o2,((L.alloc Y).alloc o2).drew.ownsRow wo.heap.size 301 1 u7 I.length (I.map ptrTo)):=λY o2=>(HW.out.alloc _).alloc _
      have eg:wo.heap.size<=L.heap.size:=by have:=HI.out.2.2.2.1.size;have:=HS.out.fr.size;omega
      have d6:I.length<=1000:=Om;have cv:L.drew.cell? ⟨nb t,0,none⟩=some (.int .i64 x.id)/\L.drew.cell? ⟨nb t,1,none⟩=some (.int .i64 x.pos)/\L.drew.cell? ⟨nb t,2,none⟩=some (.int .i64 x.start):=⟨n0,n1,n2⟩
      have b9:∀ Y,(L.drew.alloc Y).cell? ⟨nb t,0,none⟩=some (.int .i64 x.id)/\(L.drew.alloc Y).cell? ⟨nb t,1,none⟩=some (.int .i64 x.pos)/\(L.drew.alloc Y).cell? ⟨nb t,2,none⟩=some (.int .i64 x.start):=λY=>by
       have X:Zf L (L.drew.alloc Y):=((Fl L).drew).alloc Y;exact⟨X.cell n0 id,X.cell n1 id,X.cell n2 id⟩
      have b8:∀ Y o2,((L.drew.alloc Y).alloc o2).cell? ⟨nb t,0,none⟩=some (.int .i64 x.id)/\((L.drew.alloc Y).alloc o2).cell? ⟨nb t,1,none⟩=some (.int .i64 x.pos)/\((L.drew.alloc Y).alloc o2).cell? ⟨nb t,2,none⟩=some (.int .i64 x.start):=λY o2=>by
       have X:Zf L ((L.drew.alloc Y).alloc o2):=(((Fl L).drew).alloc Y).alloc o2;exact⟨X.cell n0 id,X.cell n1 id,X.cell n2 id⟩
      have dw:Hid (nb t<wo.heap.size):=dc;refine Ye 23 24 #[false,false,false,false,false,false,false,false,false,false,false,false,false,false,false,false,false,false,false,false,false,false,false,false] (λW=>W.cell? ⟨nb t,0,none⟩=some (.int .i64 x.id)/\W.cell? ⟨nb t,1,none⟩=some (.int .i64 x.pos)/\W.cell? ⟨nb t,2,none⟩=some (.int .i64 x.start)) mixed rfl rfl (cv) (λhS=>?_);refine WL.go [(0,71),(1,72),(2,73),(3,74),(4,75),(5,76),(6,77),(7,78),(8,79),(9,80),(10,81),(11,82),(12,83),(13,84),(14,85),(15,86),(16,87),(17,88),(18,89),(19,90)] ?_;iterate 20 (refine WL.tk (v:=?_) rfl rfl Kr (λ_ _ _ h=>h) (Or.inl ⟨Rf,?_⟩) (by assumption) ?_;rotate_left;(focus (intro w aw;(try obtain⟨s0,s1,s2⟩:=aw);go_simp;(try with_reducible rfl)));simp only[Act.put,Sa,Sb1,Sc])
      refine WZ.one (i:=20) rfl Kr (by decide) (λK Z=>?_);go_simp;refine Z.out _ _ (b9 _) (λcg=>?_);clear Z K;try simp only[Act.put,Sa,Sb1,Sc]
      refine WZ.one (i:=21) rfl Kr (by decide) (λK Z=>?_);go_simp;refine Z.out _ _ (b8 _ _) (λcf=>?_);clear Z K;try simp only[Act.put,Sa,Sb1,Sc]
      refine WZ.one (i:=22) rfl Kr (by decide) (λK Z=>?_);refine Z9 Rf _ _ 297 Rf wo.heap.size 301 ei (.pointer none) 1 8 Tryz.underlying297 ar a1 az ay Rf (by decide) u7 I.length _ Rf (HW.out _ _) ⟨L.heap.size+1,0,none⟩ 1 1 [ptrTo L.heap.size] Rf Rf (cell_two_new _ _ _ _) (by intro x hx;rw[List.mem_singleton.1 hx];rfl) (by unfold maxLen;omega) Om (by simp;omega) ?_;intro v' V z A M U;have HE:=Hd (Ai1 z (Ai1 A U));have be:V.cell? ⟨nb t,0,none⟩=some (.int .i64 x.id)/\V.cell? ⟨nb t,1,none⟩=some (.int .i64 x.pos)/\V.cell? ⟨nb t,2,none⟩=some (.int .i64 x.start):=(by have F:Fr (λj=>u7.ownBlock=some j) L V:=Fr.grown ((((Fl L).alloc _).alloc _).drew) A (λk e _=>e);have bv:u7.ownBlock≠some (nb t):=(λe=>by have:=(HS.out.st.lt _ e).1;have:=dw.out;omega);exact⟨F.cell n0 bv,F.cell n1 bv,F.cell n2 bv⟩);clear z A M U;refine Z.out _ _ (be) (λce=>?_);clear Z K;try simp only[Act.put,Sa,Sb1,Sc]
      refine WZ.last rfl Kr Kr (λK Z=>?_);go_simp;refine Z.out _ _ ?_;clear Z K;go_wp2_with fail
      go_roundg (q-(I.length+1))
      case measure=>omega
      case rel =>
       refine⟨v',I++[L.heap.size],rfl,by rw[List.length_append,List.length_singleton,HI.out.1];go_num,by rw[List.length_append,List.length_singleton];omega,by rw[List.length_append,List.length_singleton];omega,?_⟩;have FI:=HI.out.2.2.2.1
       have e:(.cells #[Value.int .i64 x.id,.int .i64 ((x.pos:Int)+(pb:Int)),.int .i64 ((x.start:Int)+(i:Int)),.int .i64 0,.int .i32 0,.int .i32 0,.int .i32 0,.int .i32 0,.string (Utf8.encode (r:Int)),.pointer none] 304 (0,0))=Obj.cells (Xm (Pd x i) 0 none) 304 (0,0):=by
        rw[c4.out,HI.out.2.1];simp only[Xm,Pd,zeroM,Option.map_none,Int.natCast_add];rfl
       have X1:Zf L (L.alloc (.cells (Xm (Pd x i) 0 none) 304)):=(Fl L).alloc _;have X2:Zf (L.alloc (.cells (Xm (Pd x i) 0 none) 304)) (((L.alloc (.cells (Xm (Pd x i) 0 none) 304)).alloc (.cells #[ptrTo L.heap.size] 301)).drew):=((Fl _).alloc _).drew;have hE:=HE.out;rw[e]at hE;refine HS.out.step (wa:=((L.alloc (.cells (Xm (Pd x i) 0 none) 304)).alloc (.cells #[ptrTo L.heap.size] 301)).drew) (N:=L.heap.size) ?_ FI.size ?_ ?_ hE.1 hE.2.1 hE.2.2
       ·exact Fr.ext (FI.ext X1) X2
       ·rw[<- HI.out.1];exact X2.heap (alloc_at _ _) id
       ·rw[<- HI.out.1,<- HI.out.2.2.1];exact X2.heap (X1.heap HI.out.2.2.2.2 id) id
     ·have ad:I.length=q:=Om;have ab:=HS.out.it;have bj:bp (Zd x.surf) I.length=x.surf.size:=by rw[ad,HQ.out.1];exact L4 _
      rw[bj]at ab;have al:=λty=>V4 (P:=Tryz.prog) ab ty (Nat.lt_irrefl _)
      obtain⟨A7,c7,e7⟩:=Zm HS.out.st;subst e7
      have HM:Hid ((Tc ns prev (some t)).flatMap (λm=>Xf 3 (ns.getD m default))=((List.range q).map (Pd x)).reverse.drop 0++(Tc ns prev (prev t)).flatMap (λm=>Xf 3 (ns.getD m default))):=by
       show _=_;rw[bl.out,List.flatMap_cons,<- HN.out.1,List.drop_zero,HQ.out.1];unfold Xf;rw[if_neg (by have:=dy.out;omega)]
      have c5:Hid (BW kl g R c vs ns nb cost prev s pd pu w all (((List.range q).map (Pd x)).reverse.drop 0++(Tc ns prev (prev t)).flatMap (λm=>Xf 3 (ns.getD m default))) vo bs wr/\SJ x kl wo.heap.size (.slice A7 I.length c7) I vo wr):=by
       have h2:=HB.out.2.ext HS.out.fr;rw[HM.out]at h2;have d8:kl<wo.heap.size:=by have:=ag.out.at0;omega
       refine⟨h2,HS.out.st,λk hk=>?_,λj e=>?_⟩
       ·obtain⟨a,b,_,_⟩:=HS.out.nd k hk;exact⟨a,Om,λe=>by have:=(HB.out.2.out.1.lt _ e).2;omega⟩
       ·have:=(HS.out.st.lt j e).1;exact⟨λe=>by have:=(HB.out.2.out.1.lt _ e).2;omega,Om⟩
      have en:=Hd HS.out.fr.size;clear ab bj HS ad;go_wp2_with fail
      go_loopg [11] q (λg3 c9 wr=>∃ (j:Nat) (vo:Value) (bs:List (Nat×Nd)),c9=.int .i64 (j:Int)/\j<=q/\q<=j+g3/\Hid (BW kl g R c vs ns nb cost prev s pd pu w all (((List.range q).map (Pd x)).reverse.drop j++(Tc ns prev (prev t)).flatMap (λm=>Xf 3 (ns.getD m default))) vo bs wr/\SJ x kl wo.heap.size (.slice A7 I.length c7) I vo wr))
      case atStart=>exact⟨0,vo,bs,rfl,Om,Om,c5⟩
      case round =>
       clear c5 al;obtain⟨j,aa,bg,rfl,hj,ed,HJ⟩:=hrel;by_cases dp:j<q
       ·obtain⟨m,bx⟩:∃ m,m=q-1-j:=⟨_,rfl⟩;have ea:(j:Int)<(I.length:Int):=Om;obtain⟨gs,cs,es,ec,_⟩:=V2 HJ.out.2.st m Om;have cl:m<I.length:=Om;rw[List.getElem?_map,Ge cl]at ec;simp only[Value.slice.injEq]at es;obtain⟨rfl,_,rfl⟩:=es;obtain⟨N,hN⟩:∃ N,N=I[m]:=⟨_,rfl⟩;obtain⟨bw,bu,bt⟩:=HJ.out.2.nd m cl;rw[<- hN]at ec bw bu bt;have ec:wr.cell? ⟨gs,m,none⟩=some (ptrTo N):=ec;have bi:=HJ.out.2.off gs rfl;have k1:wr.cell? ⟨kl,1,none⟩=some aa:=Zb HJ.out.1.lat 1 _ rfl;have bc:wr.frozen? ⟨kl,1,none⟩=false:=Zi HJ.out.1.lat 1;have a7:=lt_of_cell k1;have d2:=lt_of_cell ec
        have ej:bg.length<=1000000000:=by
         have:=congrArg List.length HJ.out.1.eq;rw[List.length_append,List.length_map]at this;have:=HX.out.2.2.2.2.2;omega
        have d1:w.heap.size<=wr.heap.size:=HJ.out.1.fr.size;have am:aa.ownBlock≠some kl:=λe=>by have:=(HJ.out.1.out.1.lt _ e).1;have:=ag.out.at0;omega
        have ae:=Hd (Ai1 bw (Ai1 bu (Ai1 bt (Ai1 bi am))));have af:=Hd HJ.out.1.out.1
        have dv:Hid (((List.range q).map (Pd x)).reverse.drop j++(Tc ns prev (prev t)).flatMap (λm=>Xf 3 (ns.getD m default))=Pd x m::(((List.range q).map (Pd x)).reverse.drop (j+1)++(Tc ns prev (prev t)).flatMap (λm=>Xf 3 (ns.getD m default)))):=by
         show _=_;rw[Zir _ _ _ dp,<- bx];rfl
        have y1:IntKind.i64.wrap ((q:Int)-1)=(q:Int)-1:=by rw[IntKind.wrap_i64];omega
        have y2:IntKind.i64.wrap ((q:Int)-1-(j:Int))=(m:Int):=by rw[IntKind.wrap_i64];omega
        have y3:(q:Int)-1-(j:Int)=(m:Int):=Om;have y4:(m:Int)<(I.length:Int):=Om;have y5:(0:Int)<=(m:Int):=Om;have y6:IntKind.i64.wrap (m:Int)=(m:Int):=by rw[IntKind.wrap_i64];omega
        have y7:(m:Int)<(q:Int):=Om;have em:=Hd bx;clear hN bw bu bt bi am bx;go_wp2_with fail
        have cu:wr.drew.cell? ⟨kl,1,none⟩=some aa/\wr.drew.frozen? ⟨kl,1,none⟩=false/\wr.drew.cell? ⟨gs,m,none⟩=some (ptrTo N):=⟨k1,bc,ec⟩
        have b7:∀ Y,(wr.drew.alloc Y).cell? ⟨kl,1,none⟩=some aa/\(wr.drew.alloc Y).frozen? ⟨kl,1,none⟩=false/\(wr.drew.alloc Y).cell? ⟨gs,m,none⟩=some (ptrTo N):=λY=>by
         have X:Zf wr (wr.drew.alloc Y):=((Fl wr).drew).alloc Y;exact⟨X.cell k1 id,(X.frozen k1 id).trans bc,X.cell ec id⟩
        refine Ye 16 17 #[false,false,false,false,false,false,false,false,false,false,false,false,false,false,false,false,false] (λW=>W.cell? ⟨kl,1,none⟩=some aa/\W.frozen? ⟨kl,1,none⟩=false/\W.cell? ⟨gs,m,none⟩=some (ptrTo N)) mixed rfl rfl (cu) (λhS=>?_);refine WL.go [(0,103),(1,104),(2,105),(3,106),(4,107),(5,108),(6,109),(7,110),(8,111),(9,112),(10,113),(11,114)] ?_;iterate 12 (refine WL.tk (v:=?_) rfl rfl Kr (λ_ _ _ h=>h) (Or.inl ⟨Rf,?_⟩) (by assumption) ?_;rotate_left;(focus (intro w aw;(try obtain⟨s0,s1,s2⟩:=aw);go_simp;(try with_reducible rfl)));simp only[Act.put,Sa,Sb1,Sc])
        refine WZ.one (i:=12) rfl Kr (by decide) (λK Z=>?_);go_simp;refine Z.out _ _ (b7 _) (λcd=>?_);clear Z K;try simp only[Act.put,Sa,Sb1,Sc]
        refine WZ.one (i:=13) rfl Kr (by decide) (λK Z=>?_);refine Z9 Rf _ _ 297 Rf w.heap.size 301 ei (.pointer none) 1 8 Tryz.underlying297 ar a1 az ay Rf (by decide) aa bg.length _ Rf (af.out.alloc _) ⟨wr.heap.size,0,none⟩ 1 1 [ptrTo N] Rf Rf (Z2 _ _) (by intro x hx;rw[List.mem_singleton.1 hx];rfl) (by unfold maxLen;omega) Om (by simp;omega) ?_;intro v' V z A M U;obtain⟨A1,c0,dk⟩:=Zm z;subst dk;have HE:=Hd (Ai1 z (Ai1 A U));have F:Fr (λj=>aa.ownBlock=some j) wr V:=Fr.grown (((Fl wr).drew).alloc _) A (λk e _=>e);have be:V.cell? ⟨kl,1,none⟩=some aa/\V.frozen? ⟨kl,1,none⟩=false/\V.cell? ⟨gs,m,none⟩=some (ptrTo N):=⟨F.cell k1 ae.out.2.2.2.2,(F.frozen k1 ae.out.2.2.2.2).trans bc,F.cell ec ae.out.2.2.2.1.1⟩;have l1:=lt_of_cell be.1;clear z A M U F;refine Z.out _ _ (be) (λcc=>?_);clear Z K;try simp only[Act.put,Sa,Sb1,Sc]
        refine WL.go [(14,117),(15,118)] ?_;iterate 2 (refine WL.tk (v:=?_) rfl rfl Kr (λ_ _ _ h=>h) (Or.inl ⟨Rf,?_⟩) (by assumption) ?_;rotate_left;(focus (intro w aw;(try obtain⟨s0,s1,s2⟩:=aw);go_simp;(try with_reducible rfl)));simp only[Act.put,Sa,Sb1,Sc])
        refine WZ.last rfl Kr Kr (λK Z=>?_);go_simp;refine Z.out _ _ ?_;clear Z K;go_wp2_with fail
        go_roundg (q-(j+1))
        case measure=>omega
        case rel =>
         have X:Zf wr (wr.drew.alloc (.cells #[ptrTo N] 301)):=((Fl wr).drew).alloc _;have du:N<(wr.drew.alloc (.cells #[ptrTo N] 301)).heap.size:=by have:=(Gs1.1 (X.heap ae.out.1 id)).1;exact this
         exact⟨j+1,_,bg++[(N,Pd x m)],by go_num,Om,Om,HJ.out.1.put ag.out X (N,Pd x m) 0 none ⟨Om,Om⟩ (X.heap ae.out.1 id) ae.out.2.1 ae.out.2.2.1 du HE.out.1 HE.out.2.1 HE.out.2.2 _ dv.out,HJ.out.2.put X HE.out.2.1 HE.out.2.2⟩
       ·have G:=HJ.out.1.rows.node t c2.out
        have n9:wr.cell? ⟨nb t,9,none⟩=some (.pointer ((prev t).map λb=>⟨nb b,0,none⟩)):=by
         rw[show ((prev t).map λb=>(⟨nb b,0,none⟩:Addr))=((prev t).map nb).map (λb=>⟨b,0,none⟩) by cases prev t<;>rfl];exact Zb G 9 _ rfl
        have ln:=lt_of_cell n9;have d9:¬ (j:Int)<(I.length:Int):=Om
        have dx:Hid (BW kl g R c vs ns nb cost prev s pd pu w all ((Tc ns prev (prev t)).flatMap (λm=>Xf 3 (ns.getD m default))) aa bg wr):=by
         have:=HJ.out.1;rw[List.drop_eq_nil_of_le (by simp;omega),List.nil_append]at this;exact this
        have HP:Hid (∀ t',prev t=some t'->t'<ns.length):=λt' e=>(HX.out.1 t t' e).1
        clear G HJ;go_wp2_with fail
        go_roundg (Tc ns prev (prev t)).length
        case measure=>omega
        case rel=>exact⟨prev t,_,_,rfl,Nl _,HP.out,dx.out⟩
end Go.Proofs.YtlfoalomaofejaaGreatDoor
