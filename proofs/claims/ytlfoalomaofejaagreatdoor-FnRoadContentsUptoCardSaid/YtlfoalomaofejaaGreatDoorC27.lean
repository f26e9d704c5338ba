/- lattice.Backward. -/
import Derived.Test.YtlfoalomaofejaaGreatDoorC24
import Derived.Test.YtlfoalomaofejaaGreatDoorC22
set_option linter.all false
set_option maxRecDepth 100000
set_option maxHeartbeats 4000000
namespace Go.Proofs.YtlfoalomaofejaaGreatDoor
open Go.RowKit LT
theorem Da:∃ i,Tryz.prog.info? 301=some i/\i.zero=some (.pointer none)/\i.size=1/\i.bytes=8:=by
 have h:(Tryz.prog.info? 301).map (λi=>(i.zero,i.size,i.bytes))=some (some (.pointer none),1,8):=Kr
 cases hi:Tryz.prog.info? 301 with
 | none=>rw[hi]at h;cases h
 | some i =>
  rw[hi]at h;simp only[Option.map_some,Option.some.injEq,Prod.mk.injEq]at h;exact⟨i,rfl,h⟩
abbrev ptrTo(b:Nat):Value:=.pointer (some ⟨b,0,none⟩)
def V1(H:Nat)(w:World)(v:Value)(bs:List (Nat×Nd)):Prop :=
 w.ownsRow H 301 1 v bs.length (bs.map λb=>ptrTo b.1)/\∀ b∈bs,∃ cost prev,(-2147483648<=cost/\cost<=2147483647)/\w.heap[b.1]?=some (.cells (Xd b.2 cost prev) 304 (0,0))
theorem V1.keep{H:Nat}{w w':World}{v:Value}{bs:List (Nat×Nd)}{S:Nat->Prop}(h:V1 H w v bs)(f:Fr S w w')(h1:∀ j,v.ownBlock=some j->¬ S j)(h2:∀ b∈bs,¬ S b.1):V1 H w' v bs :=
 ⟨Zs h.1 f h1,λb hb=>by
  obtain⟨c,p,hc,h⟩:=h.2 b hb
  exact⟨c,p,hc,f.heap h (h2 b hb)⟩⟩
theorem V1.lt{H:Nat}{w:World}{v:Value}{bs:List (Nat×Nd)}(h:V1 H w v bs):∀ b∈bs,b.1<w.heap.size:=λb hb=>by
 obtain⟨c,p,_,h⟩:=h.2 b hb;exact (Gs1.1 h).1
theorem V1.snoc{H:Nat}{w wa w':World}{v v':Value}{bs:List (Nat×Nd)}(h:V1 H w v bs)(hx:Zf w wa)(b:Nat×Nd)(cost:Int)(prev:Option Nat)(hc:-2147483648<=cost/\cost<=2147483647)(hb:wa.heap[b.1]?=some (.cells (Xd b.2 cost prev) 304 (0,0)))
  (ho:w'.ownsRow H 301 1 v' (bs.length+1) (bs.map (λb=>ptrTo b.1)++[ptrTo b.1])) (hg:wa.grownBy w' v.ownBlock) (hn:∀ x∈b::bs,v.ownBlock≠some x.1):V1 H w' v' (bs++[b]):=by
 have F:Fr (λj=>v.ownBlock=some j) wa w':=(Fl _).grown hg (λk e _=>e);refine⟨by rw[List.length_append,List.map_append];exact ho,λx hx'=>?_⟩;rcases List.mem_append.1 hx' with q|q
 ·obtain⟨c,p,hc,h2⟩:=h.2 x q;exact⟨c,p,hc,F.heap (hx.heap h2 id) (hn x (by simp[q]))⟩
 ·rw[List.mem_singleton.1 q];exact⟨cost,prev,hc,F.heap hb (hn b (by simp))⟩
theorem cell_two_new(w:World)(o:Obj)(x:Value)(t:TypeId):∀ j u,[x][j]?=some u->((w.alloc o).alloc (.cells #[x] t)).drew.cell? ((⟨w.heap.size+1,0,none⟩:Addr).add j)=some u:=λj u h=>by
 have:=cell_one_new (w.alloc o) x t j u h;rw[Za]at this;exact this
abbrev Tf(s:ByteArray)(vo:Value)(g R c:Nat)(pd pu:Value):Array Value:=#[.string s,vo,.slice (some ⟨g,0,none⟩) R c,pd,pu]
structure Zju(x:Nd):Prop where
 valid:Lib.validD x.surf.data.toList=true
 size:x.surf.size<=1000
 pos:x.pos<=1000000
 start:x.start<=1000000
 id:-1<=x.id/\x.id<=1000000
structure BW(kl g R c:Nat)(vs:Nat->Value)(ns:List Nd)(nb:Nat->Nat)(cost:Nat->Int)(prev:Nat->Option Nat)(s:ByteArray)(pd pu:Value)(w0:World)(all rest:List Nd)(vo:Value)(bs:List (Nat×Nd))(w:World):Prop where
 lat:w.heap[kl]?=some (.cells (Tf s vo g R c pd pu) 300 (0,0))
 out:V1 w0.heap.size w vo bs
 eq:bs.map (·.2)++rest=all
 off:∀ b∈bs,vo.ownBlock≠some b.1/\b.1≠kl
 rows:Ym w g R vs ns nb cost prev
 fr:Fr (λj=>j=kl) w0 w
section
variable{kl g R c:Nat}{vs:Nat->Value}{ns:List Nd}{nb:Nat->Nat}{cost:Nat->Int}{prev:Nat->Option Nat}{s:ByteArray}{pd pu:Value}{w0:World}{all rest:List Nd}{vo:Value}{bs:List (Nat×Nd)}{w w':World}
theorem BW.ext(h:BW kl g R c vs ns nb cost prev s pd pu w0 all rest vo bs w)(f:Zf w w'):BW kl g R c vs ns nb cost prev s pd pu w0 all rest vo bs w' :=
 ⟨f.heap h.lat id,h.out.keep f (λ_ _=>id) (λ_ _=>id),h.eq,h.off,h.rows.ext f,h.fr.ext f⟩
structure BL(kl g R:Nat)(vs:Nat->Value)(ns:List Nd)(nb:Nat->Nat)(w0:World):Prop where
 at0:kl<w0.heap.size
 own:∀ j,Yt g R vs j->j<w0.heap.size/\j≠kl
 node:∀ m,m<ns.length->nb m<w0.heap.size/\nb m≠kl
theorem BW.put(h:BW kl g R c vs ns nb cost prev s pd pu w0 all rest vo bs w)(hL:BL kl g R vs ns nb w0){wa:World}(hx:Zf w wa)(b:Nat×Nd)(cst:Int)(prv:Option Nat)(hc:-2147483648<=cst/\cst<=2147483647)(hb:wa.heap[b.1]?=some (.cells (Xd b.2 cst prv) 304 (0,0)))
  (hbk:b.1≠kl) (hbv:vo.ownBlock≠some b.1) (hbl:b.1<wa.heap.size) {v':Value} {w1:World} (ho:w1.ownsRow w0.heap.size 301 1 v' (bs.length+1) (bs.map (λb=>ptrTo b.1)++[ptrTo b.1])) (hg:wa.grownBy w1 vo.ownBlock) (hat:v'.ownBlock=vo.ownBlock\/v'.ownBlock=some wa.heap.size) (rest':List Nd) (hr:rest=b.2::rest') :
  BW kl g R c vs ns nb cost prev s pd pu w0 all rest' v' (bs++[b]) (w1.setCell ⟨kl,1,none⟩ v'):=by
 have hvo:=h.out.1.lt;have F1:Fr (λj=>vo.ownBlock=some j) w w1:=Fr.grown (hx.mono (S':=λj=>vo.ownBlock=some j) (λ_ _ e=>e.elim)) hg (λk e _=>e);have F2:Fr (λj=>j=kl) w1 (w1.setCell ⟨kl,1,none⟩ v'):=(Fl _).setCell _ _ (λ_=>rfl);have hkv:vo.ownBlock≠some kl:=λe=>by have:=hvo kl e;have:=hL.at0;omega
 have hwa:=hx.size;have hw0:=h.fr.size
 have hnv:∀ j,v'.ownBlock=some j->vo.ownBlock=some j\/j=wa.heap.size:=λj e=>by
  rcases hat with q|q
  ·left;rw[<- q];exact e
  ·right;rw[q]at e;exact (Option.some.inj e).symm
 have hbs:=h.out.lt;refine⟨?_,?_,?_,?_,?_,?_⟩
 ·exact Xf (F1.heap h.lat hkv) 1 v'
 ·refine V1.keep (V1.snoc h.out hx b cst prv hc hb ho hg ?_) F2 ?_ ?_
  ·intro x hx';rcases List.mem_cons.1 hx' with rfl|q
   ·exact hbv
   ·exact (h.off x q).1
  ·intro j e q;have hq:=hL.at0;rcases hnv j e with q'|q'
   ·rw[q]at q';exact hkv q'
   ·omega
  ·intro x hx' q;rcases List.mem_append.1 hx' with r|r
   ·exact (h.off x r).2 q
   ·rw[List.mem_singleton.1 r]at q;exact hbk q
 ·rw[List.map_append,List.map_singleton,List.append_assoc,List.singleton_append,<- hr];exact h.eq
 ·intro x hx'
  have hxl:x.1<wa.heap.size/\vo.ownBlock≠some x.1/\x.1≠kl:=by
   rcases List.mem_append.1 hx' with r|r
   ·exact⟨by have:=hbs x r;omega,h.off x r⟩
   ·rw[List.mem_singleton.1 r];exact⟨hbl,hbv,hbk⟩
  refine⟨λe=>?_,hxl.2.2⟩;rcases hnv _ e with q|q
  ·exact hxl.2.1 q
  ·omega
 ·refine (h.rows.keep F1 (λj hj e=>?_) (λm hm e=>?_)).keep F2 (λj hj=>(hL.own j hj).2) (λm hm=>(hL.node m hm).2)
  ·have:=hvo j e;have:=(hL.own j hj).1;omega
  ·have:=hvo _ e;have:=(hL.node m hm).1;omega
 ·exact Fr.trans (S:=λj=>j=kl) (h.fr.trans F1 (λj hj e=>by have:=hvo j e;omega)) F2 (λj _ e=>e)
end
structure SK(x:Nd)(ib:Nat)(w0:World)(sv:Value)(nbs:List Nat)(w:World):Prop where
 it:w.heap[ib]?=some (.stringIter x.surf (bp (Zd x.surf) nbs.length))
 st:w.ownsRow w0.heap.size 301 1 sv nbs.length (nbs.map ptrTo)
 nd:∀ k (h:k<nbs.length),w.heap[nbs[k]]?=some (.cells (Xd (Qy x k) 0 none) 304 (0,0))/\w0.heap.size<=nbs[k]/\nbs[k]≠ib/\sv.ownBlock≠some nbs[k]
 off:sv.ownBlock≠some ib
 ib0:w0.heap.size<=ib
 fr:Zf w0 w
theorem SK.step{x:Nd}{ib:Nat}{w0 w wa w1:World}{sv sv':Value}{nbs:List Nat}(h:SK x ib w0 sv nbs w){N:Nat}(hwa:Fr (λj=>j=ib) w wa)(hN:w.heap.size<=N)(hnode:wa.heap[N]?=some (.cells (Xd (Qy x nbs.length) 0 none) 304 (0,0)))
  (hit:wa.heap[ib]?=some (.stringIter x.surf (bp (Zd x.surf) (nbs.length+1)))) (ho:w1.ownsRow w0.heap.size 301 1 sv' (nbs.length+1) (nbs.map ptrTo++[ptrTo N])) (hg:wa.grownBy w1 sv.ownBlock) (hat:sv'.ownBlock=sv.ownBlock\/sv'.ownBlock=some wa.heap.size) :
  SK x ib w0 sv' (nbs++[N]) w1:=by
 have F:Fr (λj=>sv.ownBlock=some j) wa w1:=(Fl _).grown hg (λk e _=>e);have hNl:N<wa.heap.size:=(Gs1.1 hnode).1;have hil:ib<w.heap.size:=(Gs1.1 h.it).1;have hwl:=hwa.size;have hsv:=h.st.lt;have h0:=h.fr.size;have hsN:sv.ownBlock≠some N:=λe=>by have:=(hsv N e).2;omega
 have hnv:∀ j,sv'.ownBlock=some j->sv.ownBlock=some j\/j=wa.heap.size:=λj e=>by
  rcases hat with q|q
  ·left;rw[<- q];exact e
  ·right;rw[q]at e;exact (Option.some.inj e).symm
 refine⟨?_,by rw[List.length_append,List.map_append];exact ho,?_,?_,h.ib0,?_⟩
 ·rw[List.length_append,List.length_singleton];exact F.heap hit h.off
 ·intro k hk;rw[List.length_append,List.length_singleton]at hk;rcases Nat.lt_or_ge k nbs.length with q|q
  ·obtain⟨a,b,c,e⟩:=h.nd k q;have hkl:nbs[k]<w.heap.size:=(Gs1.1 a).1;rw[List.getElem_append_left q];refine⟨F.heap (hwa.heap a c) e,b,c,λr=>?_⟩;rcases hnv _ r with r|r
   ·exact e r
   ·omega
  ·have ek:k=nbs.length:=Om;subst ek;rw[List.getElem_append_right Om];simp only[Nat.sub_self,List.getElem_cons_zero];refine⟨F.heap hnode hsN,Om,Om,λr=>?_⟩;rcases hnv _ r with r|r
   ·exact hsN r
   ·omega
 ·intro r;rcases hnv _ r with r|r
  ·exact h.off r
  ·omega
 ·exact (h.fr.trans hwa (λj hj e=>by have:=h.ib0;omega)).trans F (λj hj e=>by have:=(hsv j e).1;omega)
structure SJ(x:Nd)(kl H:Nat)(sv:Value)(nbs:List Nat)(vo:Value)(w:World):Prop where
 st:w.ownsRow H 301 1 sv nbs.length (nbs.map ptrTo)
 nd:∀ k (h:k<nbs.length),w.heap[nbs[k]]?=some (.cells (Xd (Qy x k) 0 none) 304 (0,0))/\nbs[k]≠kl/\vo.ownBlock≠some nbs[k]
 off:∀ j,sv.ownBlock=some j->vo.ownBlock≠some j/\j≠kl
theorem SJ.put{x:Nd}{kl H:Nat}{sv:Value}{nbs:List Nat}{vo v':Value}{w wa w1:World}(h:SJ x kl H sv nbs vo w)(hx:Zf w wa)(hg:wa.grownBy w1 vo.ownBlock)(hat:v'.ownBlock=vo.ownBlock\/v'.ownBlock=some wa.heap.size):SJ x kl H sv nbs v' (w1.setCell ⟨kl,1,none⟩ v'):=by
 have F1:Fr (λj=>vo.ownBlock=some j) w w1:=Fr.grown (hx.mono (S':=λj=>vo.ownBlock=some j) (λ_ _ e=>e.elim)) hg (λk e _=>e);have F2:Fr (λj=>j=kl) w1 (w1.setCell ⟨kl,1,none⟩ v'):=(Fl _).setCell _ _ (λ_=>rfl);have hsz:=hx.size
 have hnv:∀ j,j<wa.heap.size->vo.ownBlock≠some j->v'.ownBlock≠some j:=λj hj hv e=>by
  rcases hat with q|q
  ·rw[q]at e;exact hv e
  ·rw[q]at e;have:=Option.some.inj e;omega
 refine⟨Zs (Zs h.st F1 (λj e=>(h.off j e).1)) F2 (λj e=>(h.off j e).2),λk hk=>?_,λj e=>⟨hnv j ?_ (h.off j e).1,(h.off j e).2⟩⟩
 ·obtain⟨a,b,c⟩:=h.nd k hk;have hl:nbs[k]<w.heap.size:=(Gs1.1 a).1;exact⟨F2.heap (F1.heap a c) b,b,hnv _ Om c⟩
 ·have:=Ow h.st e;omega
theorem Zho{α:Type}(f:Nat->α)(q j:Nat)(hj:j<q):((List.range q).map f).reverse.drop j=f (q-1-j)::((List.range q).map f).reverse.drop (j+1):=by
 have hl:j<((List.range q).map f).reverse.length:=by simpa using hj
 rw[List.drop_eq_getElem_cons hl];congr 1;rw[List.getElem_reverse];simp
theorem Qh{α β:Type}(f:α->List β)(k:Nat):∀ l:List α,(∀ x∈l,(f x).length<=k)->(l.flatMap f).length<=l.length*k
 | [],_=>by simp
 | x::l,h=>by
  have:=Qh f k l (λy hy=>h y (by simp[hy]));have h1:=h x (by simp);simp only[List.flatMap_cons,List.length_append,List.length_cons,Nat.add_mul,Nat.one_mul];omega
theorem Ox(mode:Int)(x:Nd)(h:x.surf.size<=1000):(Y8 mode x).length<=1000:=by
 unfold Y8
 split
 ·simp
 ·rw[List.length_reverse,List.length_map,List.length_range,<- Sm];have:=Lib.runeCount_le x.surf;omega
theorem Ja{ns:List Nd}{prev:Nat->Option Nat}(R t0:Nat)(hf:(ns.getD t0 default).fin+1=R):(U6 ns prev (some t0)).length<=R:=by
 rw[<- hf];exact Zdk (ns:=ns) _ _
theorem Zlx(kl g R c:Nat)(vs:Nat->Value)(ns:List Nd)(nb:Nat->Nat)(cost:Nat->Int)(prev:Nat->Option Nat)(mode:Int)(s:ByteArray)(pd pu:Value)(t0:Nat)(w:World)
  (hkl:w.heap[kl]?=some (.cells (Tf s (.slice none 0 0) g R c pd pu) 300 (0,0))) (h:Ym w g R vs ns nb cost prev) (hkn:∀ m,m<ns.length->nb m≠kl) (hkr:¬ Yt g R vs kl)
  (hR:1<=R) (hR2:R<=1000000) (ht0:(LT.row ns (R-1))[0]?=some t0) (hd:Zgs ns prev) (hx:∀ x∈ns,Zju x) (hco:∀ m,-2147483648<=cost m/\cost m<=2147483647) :
  Calls Tryz.prog 161 #[.pointer (some ⟨kl,0,none⟩),.int .i64 mode] w λe w'=>e=.returned (.tuple #[])/\∃ vo bs,BW kl g R c vs ns nb cost prev s pd pu w ((U6 ns prev (some t0)).flatMap λm=>Y8 mode (ns.getD m default)) [] vo bs w':=by
 have mixed:Tryz.prog.follows .mixedOrders=true:=Kr
 obtain⟨ei,hei,ei1,ei2,ei3⟩:=Da;obtain⟨ht0l,ht0f⟩:=Vo (List.mem_of_getElem? ht0);have hlen0:=Ja (ns:=ns) (prev:=prev) R t0 (by rw[ht0f];omega)
 have hall:((U6 ns prev (some t0)).flatMap (λm=>Y8 mode (ns.getD m default))).length<=R*1000:=by
  refine Nt (Qh _ 1000 _ (λm hm=>Ox mode _ ?_)) (Nat.mul_le_mul_right _ hlen0);have hml:=Ps hd _ _ ht0l m hm;have e:ns.getD m default=ns[m]:=by rw[List.getD_eq_getElem?_getD,Ge hml];rfl
  rw[e];exact (hx _ (List.getElem_mem hml)).size
 have HBL:Hid (BL kl g R vs ns nb w):=⟨(Gs1.1 hkl).1,λj hj=>⟨h.lt Om j hj,λe=>hkr (by rw[<- e];exact hj)⟩,λm hm=>⟨(Gs1.1 (h.node m hm)).1,hkn m hm⟩⟩;obtain⟨all,hal⟩:∃ all,all=(U6 ns prev (some t0)).flatMap λm=>Y8 mode (ns.getD m default):=⟨_,rfl⟩
 rw[<- hal]at hall⊢
 have HB0:Hid (BW kl g R c vs ns nb cost prev s pd pu w all ((U6 ns prev (some t0)).flatMap λm=>Y8 mode (ns.getD m default)) (.slice none 0 0) [] w) :=
  ⟨hkl,⟨World.ownsRow_nil _ _ _ _,λb hb=>by cases hb⟩,hal.symm,(λb hb=>by cases hb),h,Fl _⟩
 have k2:w.cell? ⟨kl,2,none⟩=some (.slice (some ⟨g,0,none⟩) R c):=Zb hkl 2 _ rfl;obtain⟨gr,cr,er1,er2⟩:=h.getElem (R-1) Om 0 (Gl.1 ht0).1;have er3:w.cell? ⟨g,R-1,none⟩=some (.slice (some ⟨gr,0,none⟩) (LT.row ns (R-1)).length cr):=by rw[<- er1];exact (h.cell (R-1) Om).1
 have hl1:0<(LT.row ns (R-1)).length:=(Gl.1 ht0).1;have et0:(LT.row ns (R-1))[0]=t0:=(Gl.1 ht0).2;rw[et0]at er2;obtain⟨lr,hlr⟩:∃ lr,lr=(LT.row ns (R-1)).length:=⟨_,rfl⟩;rw[<- hlr]at hl1 er3;have hRz:¬ (R:Int)=0:=Om
 have hR1:IntKind.i64.wrap ((R:Int)-1)=((R-1:Nat):Int):=by rw[IntKind.wrap_i64];omega
 have hR1n:(R:Int)-1=((R-1:Nat):Int):=Om
 have hRlt:((R-1:Nat):Int)<(R:Int):=Om
 obtain⟨R1,hR1e⟩:∃ R1,R1=R-1:=⟨_,rfl⟩;rw[<- hR1e]at er3 hR1 hR1n hRlt;have HX:=Hd (Ai1 hd (Ai1 hx (Ai1 hco (Ai1 hkn (Ai1 hkr hall)))));have HT:=Hd (Ai1 ht0l hlen0);have H1:=Hd (Ai1 hR1e hlr);have lkl:=lt_of_cell k2;have lg:=lt_of_cell er3;have lgr:=lt_of_cell er2;clear h hkl hkn hkr hd hx hco hall hal ht0 ht0l ht0f hlen0 er1 et0 hlr hR1e;go_enter Tryz.func161,Tryz.ntmps161
 go_wp2_with fail
 go_loopg [5] R (λg1 v5 wr=>∃ (t:Option Nat) (vo:Value) (bs:List (Nat×Nd)),v5=.pointer (t.map λt=>⟨nb t,0,none⟩)/\(U6 ns prev t).length<=g1/\Hid ((∀ t',t=some t'->t'<ns.length)/\BW kl g R c vs ns nb cost prev s pd pu w all ((U6 ns prev t).flatMap λm=>Y8 mode (ns.getD m default)) vo bs wr))
 case atStart=>exact⟨some t0,_,_,rfl,HT.out.2,λt' e=>by rw[<- Option.some.inj e];exact HT.out.1,HB0.out⟩
 case round =>
  clear HB0 k2 er2 er3 lkl lg lgr;obtain⟨t,vo,bs,rfl,hg1,HB⟩:=hrel
  cases t with
  | none =>
   go_wp2_with fail
   go_end0
   exact⟨rfl,vo,bs,HB.out.2⟩
  | some t =>
   have hway:=Zeq HX.out.1 t;rw[hway]at hg1;have HWAY:=Hd hway;simp only[List.length_cons]at hg1;have htl:=HB.out.1 t rfl;obtain⟨x,hxe⟩:∃ x,x=ns.getD t default:=⟨_,rfl⟩
   have hxm:x∈ns:=by
    rw[hxe,List.getD_eq_getElem?_getD,Ge htl];exact List.getElem_mem htl
   have hxo:=HX.out.2.1 x hxm;obtain⟨a0,b0⟩:True/\True:=⟨trivial,trivial⟩;have hnode:=HB.out.2.rows.node t htl;rw[<- hxe]at hnode;have n0:wr.cell? ⟨nb t,0,none⟩=some (.int .i64 x.id):=Zb hnode 0 _ rfl;have n1:wr.cell? ⟨nb t,1,none⟩=some (.int .i64 x.pos):=Zb hnode 1 _ rfl;have n2:wr.cell? ⟨nb t,2,none⟩=some (.int .i64 x.start):=Zb hnode 2 _ rfl;have n3:wr.cell? ⟨nb t,3,none⟩=some (.int .i64 x.cls):=Zb hnode 3 _ rfl;have n8:wr.cell? ⟨nb t,8,none⟩=some (.string x.surf):=Zb hnode 8 _ rfl
   have n9:wr.cell? ⟨nb t,9,none⟩=some (.pointer ((prev t).map λb=>⟨nb b,0,none⟩)):=by
    rw[show ((prev t).map λb=>(⟨nb b,0,none⟩:Addr))=((prev t).map nb).map (λb=>⟨b,0,none⟩) by cases prev t<;>rfl];exact Zb hnode 9 _ rfl
   have k1:wr.cell? ⟨kl,1,none⟩=some vo:=Zb HB.out.2.lat 1 _ rfl;have fk:∀ j,wr.frozen? ⟨kl,j,none⟩=false:=λj=>by simp[World.frozen?,HB.out.2.lat]
   have lkl:=lt_of_cell k1;have lnt:=lt_of_cell n0;have HN:=Hd (Ai1 hxe (Ai1 hxm (Ai1 hnode hxo)));have HTL:=Hd htl;clear hxe hxm hnode hxo htl hway a0 b0
   have hbl:bs.length<=1000000000:=by
    have:=congrArg List.length HB.out.2.eq;rw[List.length_append,List.length_map]at this;have:=HX.out.2.2.2.2.2;omega
   have hbase:w.heap.size<=wr.heap.size:=HB.out.2.fr.size;by_cases hm:mode≠3\/x.cls≠2
   ·have HM:Hid ((U6 ns prev (some t)).flatMap (λm=>Y8 mode (ns.getD m default))=x::(U6 ns prev (prev t)).flatMap (λm=>Y8 mode (ns.getD m default))):=by
     show _=_;rw[HWAY.out,List.flatMap_cons,<- HN.out.1];unfold Y8;rw[if_pos hm];rfl
    have HEND:Hid (∀ v' w1,w1.ownsRow w.heap.size 301 1 v' (bs.length+1) (bs.map (λb=>ptrTo b.1)++[ptrTo (nb t)])->(wr.alloc (.cells #[ptrTo (nb t)] 301)).grownBy w1 vo.ownBlock->(v'.ownBlock=vo.ownBlock\/v'.ownBlock=some (wr.alloc (.cells #[ptrTo (nb t)] 301)).heap.size) ->
      (w1.cell? ⟨kl,1,none⟩=some vo/\w1.frozen? ⟨kl,1,none⟩=false/\w1.cell? ⟨nb t,9,none⟩=some (.pointer ((prev t).map λb=>⟨nb b,0,none⟩))/\kl<w1.heap.size/\nb t<w1.heap.size)/\BW kl g R c vs ns nb cost prev s pd pu w all ((U6 ns prev (prev t)).flatMap λm=>Y8 mode (ns.getD m default)) v' (bs++[(nb t,x)]) (w1.setCell ⟨kl,1,none⟩ v')):=by
     intro v' w1 ho hg hat;have hvo:=HB.out.2.out.1.lt;have hnb:=HBL.out.node t HTL.out;have hkl:=HBL.out.at0;have X:Zf wr (wr.alloc (.cells #[ptrTo (nb t)] 301)):=(Fl wr).alloc _;have F1:Fr (λj=>vo.ownBlock=some j) wr w1:=Fr.grown (X.mono (S':=λj=>vo.ownBlock=some j) (λ_ _ e=>e.elim)) hg (λk e _=>e);have hbv:vo.ownBlock≠some (nb t):=λe=>by have:=hvo _ e;omega
     have hkv:vo.ownBlock≠some kl:=λe=>by have:=hvo _ e;omega
     refine⟨⟨F1.cell k1 hkv,(F1.frozen k1 hkv).trans (fk 1),F1.cell n9 hbv,by have:=F1.size;omega,by have:=F1.size;omega⟩,?_⟩;exact HB.out.2.put HBL.out X (nb t,x) (cost t) ((prev t).map nb) (HX.out.2.2.1 t) (X.heap HN.out.2.2.1 id) hnb.2 hbv (by simp;omega) ho hg hat _ HM.out
    have HP:Hid (∀ t',prev t=some t'->t'<ns.length):=λt' e=>(HX.out.1 t t' e).1
    have HOWN:=Hd HB.out.2.out.1;have hfk:=fk 1;clear fk;by_cases hm3:mode=3
    ·subst hm3;have hc2:¬ x.cls=2:=Om;have hcb:((x.cls:Int) != 2)=true:=by simp;omega
     clear hm;go_wp2_with (first|(at_builtin;refine wpList_append_own_at _ rfl _ _ 297 rfl w.heap.size 301 ei (.pointer none) 1 8 Tryz.underlying297 hei ei1 ei2 ei3 rfl (by decide) vo bs.length _ rfl (HOWN.out.alloc _) ⟨wr.heap.size,0,none⟩ 1 1 [ptrTo (nb t)] rfl rfl (cell_one_new _ _ _) (by simp[Value.oneCell']) (by unfold maxLen;omega) Om (by simp;omega) ?_;intro v' w1 hown' hgrow hnil' hat;have HE:=Hd (HEND.out v' w1 hown' hgrow hat);obtain⟨c1,f1,n91,lk1,ln1⟩:=HE.out.1;obtain⟨A1,cp1,rfl⟩:=Zl hown';clear hown' hgrow hnil' hat)|fail)
     go_roundg (U6 ns prev (prev t)).length
     case measure=>omega
     case rel=>exact⟨prev t,_,_,rfl,Nl _,HP.out,HE.out.2⟩
    ·have hcm:(mode != 3)=true:=by simp;omega
     clear hm;go_wp2_with (first|(at_builtin;refine wpList_append_own_at _ rfl _ _ 297 rfl w.heap.size 301 ei (.pointer none) 1 8 Tryz.underlying297 hei ei1 ei2 ei3 rfl (by decide) vo bs.length _ rfl (HOWN.out.alloc _) ⟨wr.heap.size,0,none⟩ 1 1 [ptrTo (nb t)] rfl rfl (cell_one_new _ _ _) (by simp[Value.oneCell']) (by unfold maxLen;omega) Om (by simp;omega) ?_;intro v' w1 hown' hgrow hnil' hat;have HE:=Hd (HEND.out v' w1 hown' hgrow hat);obtain⟨c1,f1,n91,lk1,ln1⟩:=HE.out.1;obtain⟨A1,cp1,rfl⟩:=Zl hown';clear hown' hgrow hnil' hat)|fail)
     go_roundg (U6 ns prev (prev t)).length
     case measure=>omega
     case rel=>exact⟨prev t,_,_,rfl,Nl _,HP.out,HE.out.2⟩
   ·have hm3:mode=3:=Om;have hc2:x.cls=2:=Om;subst hm3;obtain⟨wo,hwo⟩:∃ wo,wo=wr:=⟨_,rfl⟩;subst hwo;have hcb:((x.cls:Int) != 2)=false:=(by simp[hc2]);have hgood:∀ c∈Zd x.surf,UC.Good c:=UC.valid_good HN.out.2.2.2.valid;have hsz:=HN.out.2.2.2.size;have hpos:=HN.out.2.2.2.pos;have hstart:=HN.out.2.2.2.start;obtain⟨q,hq⟩:∃ q,q=(Zd x.surf).length:=⟨_,rfl⟩;have C1:=λW=>R3 x.surf W Om
    rw[Sm,<- hq]at C1;have hq1:q<=1000:=by have:=Lib.runeCount_le x.surf;rw[Sm]at this;omega
    have HQ:=Hd (Ai1 hq hgood);have HC2:=Hd hc2;clear hm hgood hq hc2
    have hmk:∀ W:World,(Instr.makeSlice 297 (.int .i64 0) (.int .i64 (q:Int))).run Tryz.prog W=.ok (.slice (some ⟨W.heap.size,0,none⟩) 0 q) (W.alloc (.cells (madeCells #[.pointer none] q) 301)):=λW=>by
     have:=run_make (P:=Tryz.prog) W 297 301 ei _ Tryz.underlying297 hei ei1 .i64 .i64 0 (q:Nat) Om Om (by rw[ei3];omega) Om;rw[ei2]at this;simpa [Value.cells] using this
    go_wp2_with (first|(go_at_call 162;refine (C1 _).mono ?_;rintro e W2 ⟨rfl,hx2⟩;have HX2:=Hd hx2;have n82:=hx2.cell n8 id;have ln2:=lt_of_cell n82;clear hx2)|fail)
    obtain⟨ib,hib⟩:∃ ib,ib=W2.heap.size+1:=⟨_,rfl⟩;have X2:Zf wo ((W2.alloc (.cells (madeCells #[.pointer none] q) 301)).alloc (.stringIter x.surf 0)):=(HX2.out.alloc _).alloc _
    have HSK:Hid (SK x ib wo (.slice (some ⟨W2.heap.size,0,none⟩) 0 q) [] ((W2.alloc (.cells (madeCells #[.pointer none] q) 301)).alloc (.stringIter x.surf 0))):=by
     have h2:=HX2.out.size;refine⟨?_,?_,λk h=>by simp at h,?_,Om,X2⟩
     ·rw[hib];exact alloc_at' _ _ (by rw[Za])
     ·exact (World.ownsRow_made W2 _ q h2 (by unfold maxLen;omega) (by simp[madeCells])).alloc _
     ·intro e;have:W2.heap.size=ib:=Option.some.inj e;omega
    have hx1:=X2.cell n1 id;rw[<- hib];have HC:=Hd (Ai1 n0 (Ai1 n1 (Ai1 n2 (Ai1 n9 (Ai1 k1 fk)))));clear hmk X2 hx1 n82 ln2 n0 n1 n2 n3 n8 n9 k1 fk lkl
    go_loopg [7,8] q (λg2 v7 v8 wr=>∃ (sv:Value) (nbs:List Nat),v7=sv/\v8=.int .i64 (nbs.length:Int)/\nbs.length<=q/\q<=nbs.length+g2/\Hid (SK x ib wo sv nbs wr))
    case atStart=>exact⟨_,[],rfl,rfl,by simp,by simp,HSK⟩
    case round =>
     clear HSK HX2 hib;obtain⟨sv,nbs,rfl,rfl,hi,hg2,HS⟩:=hrel;by_cases hlt:nbs.length<q
     ·obtain⟨i,hie⟩:∃ i,i=nbs.length:=⟨_,rfl⟩;have hid:i<(Zd x.surf).length:=by rw[<- HQ.out.1];omega
      have hdec:=Zjb HQ.out.2 i hid;have hcg:=HQ.out.2 _ (List.getElem_mem hid);have hbs:=Mf (Zd x.surf) i hid;have hbl2:=Mi x.surf (i+1);have hcl:0<(Zd x.surf)[i].length:=List.length_pos_iff.2 hcg.1;have hit:=HS.out.it;rw[<- hie]at hit;have hpl:bp (Zd x.surf) i<x.surf.size:=Om;have hnx:=λty=>Pb (P:=Tryz.prog) hit ty hpl
      rw[hdec]at hnx;obtain⟨r,hr⟩:∃ r,r=Xa (Zd x.surf)[i]:=⟨_,rfl⟩;have hrl:r<=1114111:=by have:=Lib.rune_le x.surf (bp (Zd x.surf) i);rw[hdec]at this;rw[hr];exact this
      obtain⟨pb,hpb⟩:∃ pb,pb=bp (Zd x.surf) i:=⟨_,rfl⟩;have hpbs:pb<=1000:=Om;simp only[<- hr,<- hpb]at hnx;obtain⟨pn,hpn⟩:∃ pn,pn=bp (Zd x.surf) (i+1):=⟨_,rfl⟩;have hbs':pb+(Zd x.surf)[i].length=pn:=by rw[hpb,hpn];exact hbs.symm
      simp only[hbs']at hnx
      have HENC:Hid (Utf8.encode (r:Int)=⟨((Zd x.surf).getD i []).toArray⟩):=by
       show _=_;rw[hr,List.getD_eq_getElem?_getD,Ge hid];exact UC.enc_good hcg
      have FI:Fr (λj=>j=ib) wr (Wc wr ib x.surf pn):=Th _ _ _ _;have II:=Pi pn hit;have nib:nb t≠ib:=by have:=HS.out.ib0;omega
      have n0:=FI.cell (HS.out.fr.cell HC.out.1 id) nib;have n1:=FI.cell (HS.out.fr.cell HC.out.2.1 id) nib;have n2:=FI.cell (HS.out.fr.cell HC.out.2.2.1 id) nib;have ln:=lt_of_cell n0;have HI:=Hd (Ai1 hie (Ai1 hpb (Ai1 hpn (Ai1 FI II))));have hi0:i<=1000:=Om;rw[<- hie];clear hid hdec hcg hbs hbs' hbl2 hcl hit hpl hr hpb hpn FI II nib hie;go_upto_region 13 with fail
      have y1:IntKind.i64.wrap ((x.start:Int)+(i:Int))=(x.start:Int)+(i:Int):=by rw[IntKind.wrap_i64];omega
      have y2:IntKind.i64.wrap ((x.pos:Int)+(pb:Int))=(x.pos:Int)+(pb:Int):=by rw[IntKind.wrap_i64];omega
      have HW:=Hd (Zs HS.out.st HI.out.2.2.2.1 (λj e q=>HS.out.off (by rw[e,q])));generalize Wc wr ib x.surf pn=wi at HI n0 n1 n2 ln HW⊢;have HW:Hid (∀ o1 o2,((wi.alloc o1).alloc o2).drew.ownsRow wo.heap.size 301 1 u7 nbs.length (nbs.map ptrTo)):=λo1 o2=>(HW.out.alloc _).alloc _
      have hbw:wo.heap.size<=wi.heap.size:=by have:=HI.out.2.2.2.1.size;have:=HS.out.fr.size;omega
      have hnl:nbs.length<=1000:=Om;have hS13:wi.drew.cell? ⟨nb t,0,none⟩=some (.int .i64 x.id)/\wi.drew.cell? ⟨nb t,1,none⟩=some (.int .i64 x.pos)/\wi.drew.cell? ⟨nb t,2,none⟩=some (.int .i64 x.start):=⟨n0,n1,n2⟩
      have hS13a:∀ o1,(wi.drew.alloc o1).cell? ⟨nb t,0,none⟩=some (.int .i64 x.id)/\(wi.drew.alloc o1).cell? ⟨nb t,1,none⟩=some (.int .i64 x.pos)/\(wi.drew.alloc o1).cell? ⟨nb t,2,none⟩=some (.int .i64 x.start):=λo1=>by
       have X:Zf wi (wi.drew.alloc o1):=((Fl wi).drew).alloc o1;exact⟨X.cell n0 id,X.cell n1 id,X.cell n2 id⟩
      have hS13b:∀ o1 o2,((wi.drew.alloc o1).alloc o2).cell? ⟨nb t,0,none⟩=some (.int .i64 x.id)/\((wi.drew.alloc o1).alloc o2).cell? ⟨nb t,1,none⟩=some (.int .i64 x.pos)/\((wi.drew.alloc o1).alloc o2).cell? ⟨nb t,2,none⟩=some (.int .i64 x.start):=λo1 o2=>by
       have X:Zf wi ((wi.drew.alloc o1).alloc o2):=(((Fl wi).drew).alloc o1).alloc o2;exact⟨X.cell n0 id,X.cell n1 id,X.cell n2 id⟩
      have HNV:Hid (nb t<wo.heap.size):=lnt;refine Ya 23 24 #[false,false,false,false,false,false,false,false,false,false,false,false,false,false,false,false,false,false,false,false,false,false,false,false] (λW=>W.cell? ⟨nb t,0,none⟩=some (.int .i64 x.id)/\W.cell? ⟨nb t,1,none⟩=some (.int .i64 x.pos)/\W.cell? ⟨nb t,2,none⟩=some (.int .i64 x.start)) mixed rfl rfl (hS13) (λhS=>?_);refine WL.go [(0,71),(1,72),(2,73),(3,74),(4,75),(5,76),(6,77),(7,78),(8,79),(9,80),(10,81),(11,82),(12,83),(13,84),(14,85),(15,86),(16,87),(17,88),(18,89),(19,90)] ?_;iterate 20 (refine WL.tk (v:=?_) rfl rfl Kr (λ_ _ _ h=>h) (Or.inl ⟨Rf,?_⟩) (by assumption) ?_;rotate_left;(focus (intro w hSw;(try obtain⟨s0,s1,s2⟩:=hSw);go_simp;(try with_reducible rfl)));simp only[Act.put,Sa,Sb1,Sc])
      refine WZ.one (i:=20) rfl Kr (by decide) (λK hK=>?_);go_simp;refine hK.out _ _ (hS13a _) (λhSr13_20=>?_);clear hK K;try simp only[Act.put,Sa,Sb1,Sc]
      refine WZ.one (i:=21) rfl Kr (by decide) (λK hK=>?_);go_simp;refine hK.out _ _ (hS13b _ _) (λhSr13_21=>?_);clear hK K;try simp only[Act.put,Sa,Sb1,Sc]
      refine WZ.one (i:=22) rfl Kr (by decide) (λK hK=>?_);refine Z9 Rf _ _ 297 Rf wo.heap.size 301 ei (.pointer none) 1 8 Tryz.underlying297 hei ei1 ei2 ei3 Rf (by decide) u7 nbs.length _ Rf (HW.out _ _) ⟨wi.heap.size+1,0,none⟩ 1 1 [ptrTo wi.heap.size] Rf Rf (cell_two_new _ _ _ _) (by intro x hx;rw[List.mem_singleton.1 hx];rfl) (by unfold maxLen;omega) Om (by simp;omega) ?_;intro v' w1 hown' hgrow hnil' hat;have HE:=Hd (Ai1 hown' (Ai1 hgrow hat));have hS1:w1.cell? ⟨nb t,0,none⟩=some (.int .i64 x.id)/\w1.cell? ⟨nb t,1,none⟩=some (.int .i64 x.pos)/\w1.cell? ⟨nb t,2,none⟩=some (.int .i64 x.start):=(by have F:Fr (λj=>u7.ownBlock=some j) wi w1:=Fr.grown ((((Fl wi).alloc _).alloc _).drew) hgrow (λk e _=>e);have hne:u7.ownBlock≠some (nb t):=(λe=>by have:=(HS.out.st.lt _ e).1;have:=HNV.out;omega);exact⟨F.cell n0 hne,F.cell n1 hne,F.cell n2 hne⟩);clear hown' hgrow hnil' hat;refine hK.out _ _ (hS1) (λhSr13_22=>?_);clear hK K;try simp only[Act.put,Sa,Sb1,Sc]
      refine WZ.last rfl Kr Kr (λK hK=>?_);go_simp;refine hK.out _ _ ?_;clear hK K;go_wp2_with fail
      go_roundg (q-(nbs.length+1))
      case measure=>omega
      case rel =>
       refine⟨v',nbs++[wi.heap.size],rfl,by rw[List.length_append,List.length_singleton,HI.out.1];go_num,by rw[List.length_append,List.length_singleton];omega,by rw[List.length_append,List.length_singleton];omega,?_⟩;have FI:=HI.out.2.2.2.1
       have e:(.cells #[Value.int .i64 x.id,.int .i64 ((x.pos:Int)+(pb:Int)),.int .i64 ((x.start:Int)+(i:Int)),.int .i64 0,.int .i32 0,.int .i32 0,.int .i32 0,.int .i32 0,.string (Utf8.encode (r:Int)),.pointer none] 304 (0,0))=Obj.cells (Xd (Qy x i) 0 none) 304 (0,0):=by
        rw[HENC.out,HI.out.2.1];simp only[Xd,Qy,zeroM,Option.map_none,Int.natCast_add];rfl
       have X1:Zf wi (wi.alloc (.cells (Xd (Qy x i) 0 none) 304)):=(Fl wi).alloc _;have X2:Zf (wi.alloc (.cells (Xd (Qy x i) 0 none) 304)) (((wi.alloc (.cells (Xd (Qy x i) 0 none) 304)).alloc (.cells #[ptrTo wi.heap.size] 301)).drew):=((Fl _).alloc _).drew;have hE:=HE.out;rw[e]at hE;refine HS.out.step (wa:=((wi.alloc (.cells (Xd (Qy x i) 0 none) 304)).alloc (.cells #[ptrTo wi.heap.size] 301)).drew) (N:=wi.heap.size) ?_ FI.size ?_ ?_ hE.1 hE.2.1 hE.2.2
       ·exact Fr.ext (FI.ext X1) X2
       ·rw[<- HI.out.1];exact X2.heap (alloc_at _ _) id
       ·rw[<- HI.out.1,<- HI.out.2.2.1];exact X2.heap (X1.heap HI.out.2.2.2.2 id) id
     ·have hie:nbs.length=q:=Om;have hit:=HS.out.it;have hend:bp (Zd x.surf) nbs.length=x.surf.size:=by rw[hie,HQ.out.1];exact Ln _
      rw[hend]at hit;have hnx:=λty=>Vz (P:=Tryz.prog) hit ty (Nat.lt_irrefl _)
      obtain⟨A7,c7,e7⟩:=Zl HS.out.st;subst e7
      have HM:Hid ((U6 ns prev (some t)).flatMap (λm=>Y8 3 (ns.getD m default))=((List.range q).map (Qy x)).reverse.drop 0++(U6 ns prev (prev t)).flatMap (λm=>Y8 3 (ns.getD m default))):=by
       show _=_;rw[HWAY.out,List.flatMap_cons,<- HN.out.1,List.drop_zero,HQ.out.1];unfold Y8;rw[if_neg (by have:=HC2.out;omega)]
      have HB3:Hid (BW kl g R c vs ns nb cost prev s pd pu w all (((List.range q).map (Qy x)).reverse.drop 0++(U6 ns prev (prev t)).flatMap (λm=>Y8 3 (ns.getD m default))) vo bs wr/\SJ x kl wo.heap.size (.slice A7 nbs.length c7) nbs vo wr):=by
       have h2:=HB.out.2.ext HS.out.fr;rw[HM.out]at h2;have hkw:kl<wo.heap.size:=by have:=HBL.out.at0;omega
       refine⟨h2,HS.out.st,λk hk=>?_,λj e=>?_⟩
       ·obtain⟨a,b,_,_⟩:=HS.out.nd k hk;exact⟨a,Om,λe=>by have:=(HB.out.2.out.1.lt _ e).2;omega⟩
       ·have:=(HS.out.st.lt j e).1;exact⟨λe=>by have:=(HB.out.2.out.1.lt _ e).2;omega,Om⟩
      have HFR:=Hd HS.out.fr.size;clear hit hend HS hie;go_wp2_with fail
      go_loopg [11] q (λg3 v11 wr=>∃ (j:Nat) (vo:Value) (bs:List (Nat×Nd)),v11=.int .i64 (j:Int)/\j<=q/\q<=j+g3/\Hid (BW kl g R c vs ns nb cost prev s pd pu w all (((List.range q).map (Qy x)).reverse.drop j++(U6 ns prev (prev t)).flatMap (λm=>Y8 3 (ns.getD m default))) vo bs wr/\SJ x kl wo.heap.size (.slice A7 nbs.length c7) nbs vo wr))
      case atStart=>exact⟨0,vo,bs,rfl,Om,Om,HB3⟩
      case round =>
       clear HB3 hnx;obtain⟨j,vo3,bs3,rfl,hj,hg3,HJ⟩:=hrel;by_cases hjl:j<q
       ·obtain⟨m,hme⟩:∃ m,m=q-1-j:=⟨_,rfl⟩;have hjn:(j:Int)<(nbs.length:Int):=Om;obtain⟨gs,cs,es,ec,_⟩:=Vb HJ.out.2.st m Om;have hmn:m<nbs.length:=Om;rw[List.getElem?_map,Ge hmn]at ec;simp only[Value.slice.injEq]at es;obtain⟨rfl,_,rfl⟩:=es;obtain⟨N,hN⟩:∃ N,N=nbs[m]:=⟨_,rfl⟩;obtain⟨hnd,hnk,hnv⟩:=HJ.out.2.nd m hmn;rw[<- hN]at ec hnd hnk hnv;have ec:wr.cell? ⟨gs,m,none⟩=some (ptrTo N):=ec;have hoff:=HJ.out.2.off gs rfl;have k1:wr.cell? ⟨kl,1,none⟩=some vo3:=Zb HJ.out.1.lat 1 _ rfl;have hfk:wr.frozen? ⟨kl,1,none⟩=false:=Zi HJ.out.1.lat 1;have lkl:=lt_of_cell k1;have lgs:=lt_of_cell ec
        have hb3:bs3.length<=1000000000:=by
         have:=congrArg List.length HJ.out.1.eq;rw[List.length_append,List.length_map]at this;have:=HX.out.2.2.2.2.2;omega
        have hbw3:w.heap.size<=wr.heap.size:=HJ.out.1.fr.size;have hkv:vo3.ownBlock≠some kl:=λe=>by have:=(HJ.out.1.out.1.lt _ e).1;have:=HBL.out.at0;omega
        have HND:=Hd (Ai1 hnd (Ai1 hnk (Ai1 hnv (Ai1 hoff hkv))));have HOWN:=Hd HJ.out.1.out.1
        have HRD:Hid (((List.range q).map (Qy x)).reverse.drop j++(U6 ns prev (prev t)).flatMap (λm=>Y8 3 (ns.getD m default))=Qy x m::(((List.range q).map (Qy x)).reverse.drop (j+1)++(U6 ns prev (prev t)).flatMap (λm=>Y8 3 (ns.getD m default)))):=by
         show _=_;rw[Zho _ _ _ hjl,<- hme];rfl
        have y1:IntKind.i64.wrap ((q:Int)-1)=(q:Int)-1:=by rw[IntKind.wrap_i64];omega
        have y2:IntKind.i64.wrap ((q:Int)-1-(j:Int))=(m:Int):=by rw[IntKind.wrap_i64];omega
        have y3:(q:Int)-1-(j:Int)=(m:Int):=Om;have y4:(m:Int)<(nbs.length:Int):=Om;have y5:(0:Int)<=(m:Int):=Om;have y6:IntKind.i64.wrap (m:Int)=(m:Int):=by rw[IntKind.wrap_i64];omega
        have y7:(m:Int)<(q:Int):=Om;have HME:=Hd hme;clear hN hnd hnk hnv hoff hkv hme;go_wp2_with fail
        have hS18:wr.drew.cell? ⟨kl,1,none⟩=some vo3/\wr.drew.frozen? ⟨kl,1,none⟩=false/\wr.drew.cell? ⟨gs,m,none⟩=some (ptrTo N):=⟨k1,hfk,ec⟩
        have hS18a:∀ o1,(wr.drew.alloc o1).cell? ⟨kl,1,none⟩=some vo3/\(wr.drew.alloc o1).frozen? ⟨kl,1,none⟩=false/\(wr.drew.alloc o1).cell? ⟨gs,m,none⟩=some (ptrTo N):=λo1=>by
         have X:Zf wr (wr.drew.alloc o1):=((Fl wr).drew).alloc o1;exact⟨X.cell k1 id,(X.frozen k1 id).trans hfk,X.cell ec id⟩
        refine Ya 16 17 #[false,false,false,false,false,false,false,false,false,false,false,false,false,false,false,false,false] (λW=>W.cell? ⟨kl,1,none⟩=some vo3/\W.frozen? ⟨kl,1,none⟩=false/\W.cell? ⟨gs,m,none⟩=some (ptrTo N)) mixed rfl rfl (hS18) (λhS=>?_);refine WL.go [(0,103),(1,104),(2,105),(3,106),(4,107),(5,108),(6,109),(7,110),(8,111),(9,112),(10,113),(11,114)] ?_;iterate 12 (refine WL.tk (v:=?_) rfl rfl Kr (λ_ _ _ h=>h) (Or.inl ⟨Rf,?_⟩) (by assumption) ?_;rotate_left;(focus (intro w hSw;(try obtain⟨s0,s1,s2⟩:=hSw);go_simp;(try with_reducible rfl)));simp only[Act.put,Sa,Sb1,Sc])
        refine WZ.one (i:=12) rfl Kr (by decide) (λK hK=>?_);go_simp;refine hK.out _ _ (hS18a _) (λhSr18_12=>?_);clear hK K;try simp only[Act.put,Sa,Sb1,Sc]
        refine WZ.one (i:=13) rfl Kr (by decide) (λK hK=>?_);refine Z9 Rf _ _ 297 Rf w.heap.size 301 ei (.pointer none) 1 8 Tryz.underlying297 hei ei1 ei2 ei3 Rf (by decide) vo3 bs3.length _ Rf (HOWN.out.alloc _) ⟨wr.heap.size,0,none⟩ 1 1 [ptrTo N] Rf Rf (Z0 _ _) (by intro x hx;rw[List.mem_singleton.1 hx];rfl) (by unfold maxLen;omega) Om (by simp;omega) ?_;intro v' w1 hown' hgrow hnil' hat;obtain⟨A1,cp1,hv'⟩:=Zl hown';subst hv';have HE:=Hd (Ai1 hown' (Ai1 hgrow hat));have F:Fr (λj=>vo3.ownBlock=some j) wr w1:=Fr.grown (((Fl wr).drew).alloc _) hgrow (λk e _=>e);have hS1:w1.cell? ⟨kl,1,none⟩=some vo3/\w1.frozen? ⟨kl,1,none⟩=false/\w1.cell? ⟨gs,m,none⟩=some (ptrTo N):=⟨F.cell k1 HND.out.2.2.2.2,(F.frozen k1 HND.out.2.2.2.2).trans hfk,F.cell ec HND.out.2.2.2.1.1⟩;have l1:=lt_of_cell hS1.1;clear hown' hgrow hnil' hat F;refine hK.out _ _ (hS1) (λhSr18_13=>?_);clear hK K;try simp only[Act.put,Sa,Sb1,Sc]
        refine WL.go [(14,117),(15,118)] ?_;iterate 2 (refine WL.tk (v:=?_) rfl rfl Kr (λ_ _ _ h=>h) (Or.inl ⟨Rf,?_⟩) (by assumption) ?_;rotate_left;(focus (intro w hSw;(try obtain⟨s0,s1,s2⟩:=hSw);go_simp;(try with_reducible rfl)));simp only[Act.put,Sa,Sb1,Sc])
        refine WZ.last rfl Kr Kr (λK hK=>?_);go_simp;refine hK.out _ _ ?_;clear hK K;go_wp2_with fail
        go_roundg (q-(j+1))
        case measure=>omega
        case rel =>
         have X:Zf wr (wr.drew.alloc (.cells #[ptrTo N] 301)):=((Fl wr).drew).alloc _;have hNl:N<(wr.drew.alloc (.cells #[ptrTo N] 301)).heap.size:=by have:=(Gs1.1 (X.heap HND.out.1 id)).1;exact this
         exact⟨j+1,_,bs3++[(N,Qy x m)],by go_num,Om,Om,HJ.out.1.put HBL.out X (N,Qy x m) 0 none ⟨Om,Om⟩ (X.heap HND.out.1 id) HND.out.2.1 HND.out.2.2.1 hNl HE.out.1 HE.out.2.1 HE.out.2.2 _ HRD.out,HJ.out.2.put X HE.out.2.1 HE.out.2.2⟩
       ·have hnode:=HJ.out.1.rows.node t HTL.out
        have n9:wr.cell? ⟨nb t,9,none⟩=some (.pointer ((prev t).map λb=>⟨nb b,0,none⟩)):=by
         rw[show ((prev t).map λb=>(⟨nb b,0,none⟩:Addr))=((prev t).map nb).map (λb=>⟨b,0,none⟩) by cases prev t<;>rfl];exact Zb hnode 9 _ rfl
        have ln:=lt_of_cell n9;have hjq:¬ (j:Int)<(nbs.length:Int):=Om
        have HJE:Hid (BW kl g R c vs ns nb cost prev s pd pu w all ((U6 ns prev (prev t)).flatMap (λm=>Y8 3 (ns.getD m default))) vo3 bs3 wr):=by
         have:=HJ.out.1;rw[List.drop_eq_nil_of_le (by simp;omega),List.nil_append]at this;exact this
        have HP:Hid (∀ t',prev t=some t'->t'<ns.length):=λt' e=>(HX.out.1 t t' e).1
        clear hnode HJ;go_wp2_with fail
        go_roundg (U6 ns prev (prev t)).length
        case measure=>omega
        case rel=>exact⟨prev t,_,_,rfl,Nl _,HP.out,HJE.out⟩
end Go.Proofs.YtlfoalomaofejaaGreatDoor
