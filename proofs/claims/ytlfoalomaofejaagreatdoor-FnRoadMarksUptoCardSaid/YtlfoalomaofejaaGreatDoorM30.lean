/- Tokenizer.Analyze. -/
import Derived.Test.YtlfoalomaofejaaGreatDoorM29
set_option linter.all false
set_option maxRecDepth 100000
set_option maxHeartbeats 4000000
namespace Go.Proofs.YtlfoalomaofejaaGreatDoor
open Go.RowKit DT SS TR LT
abbrev Yn(q:Nat)(h:Option Addr)(t:Y0):List Value:=[.int .i64 t.index,.int .i64 t.id,.int .i64 t.cls,.int .i64 t.pos,.int .i64 t.start,.int .i64 t.fin,.string t.surf,.pointer (some ⟨q,0,none⟩),.pointer h]
theorem Zh4:∃ i,Tryz.prog.info? 137=some i/\∃ z:Value,i.zero=some z/\i.size=9/\i.bytes=80/\z.cells.size=9:=by
 have h:(Tryz.prog.info? 137).map (λi=>(i.zero.map (λz=>z.cells.size),i.size,i.bytes))=some (some 9,9,80):=Kr
 cases hi:Tryz.prog.info? 137 with
 | none=>rw[hi]at h;cases h
 | some i =>
  rw[hi]at h;simp only[Option.map_some,Option.some.injEq,Prod.mk.injEq]at h;obtain⟨h1,h2,h3⟩:=h
  cases q:i.zero with
  | none=>rw[q]at h1;cases h1
  | some z =>
   rw[q]at h1;exact⟨i,rfl,z,q,h2,h3,by simpa using h1⟩
theorem T0{w:World}{B B':Nat}{T:TypeId}{k n:Nat}{v:Value}{xs:List Value}(h:w.ownsRow B T k v n xs)(z:B'<=B):w.ownsRow B' T k v n xs:=by
 obtain⟨hl,h|⟨g,cap,q,e,h1,h2⟩⟩:=h
 ·exact⟨hl,.inl h⟩
 ·exact⟨hl,.inr ⟨g,cap,q,e,Om,h2⟩⟩
theorem Zhm(w:World)(cs:List Value)(T:TypeId):∀ j u,cs[j]?=some u->(w.alloc (.cells cs.toArray T)).cell? ((⟨w.heap.size,0,none⟩:Addr).add j)=some u:=λj u h=>by
 rw[Addr.add_lit,Nat.zero_add];exact Zb (alloc_at w (.cells cs.toArray T)) j u (by simpa using h)
theorem Zh5(z:Nat)(q:Option Addr)(t:Y0):∀ u∈Yn z q t,u.oneCell'=true:=by
 intro u h;simp only[Yn,List.mem_cons,List.mem_nil_iff,or_false]at h;rcases h with rfl|rfl|rfl|rfl|rfl|rfl|rfl|rfl|rfl<;>rfl
theorem WZ.two{P:Program}{ops:Array Oper}{Q:Exit->Act->World->Prop}{S:World->Prop}{z:Nat}{i j:Nat}{M L:Oper}{fuel:Nat}{A:Array Bool}{a:Act}{w:World}(hi:ops[i]?=some M)(hj:ops[j]?=some L)(U:Region.ready .any ops A=[i,j])(hz:i<z)(V:j<z)
  (h:∀ G:Act->World->Prop,Shut (∀ a w,S w->(S w->WZ P ops Q S z fuel (A.setIfInBounds i true) a w)->G a w)->if Region.wanted M (yielded ops a.tmps)=true then Oper.wp P M a w G Q else G (a.put M.dst undef) w)
  (h2:∀ G:Act->World->Prop,Shut (∀ a w,S w->(S w->WZ P ops Q S z fuel (A.setIfInBounds j true) a w)->G a w)->if Region.wanted L (yielded ops a.tmps)=true then Oper.wp P L a w G Q else G (a.put L.dst undef) w):WZ P ops Q S z (fuel+1) A a w:=by
 intro J;refine⟨λq=>(by rw[U]at q;cases q),λk Z=>?_⟩;have W:k=i\/k=j:=by rw[U]at Z;simpa using Z
 rcases W with rfl|rfl
 ·have I:k∈Region.ready .any ops A:=by rw[U];simp
  exact wpOp_step hi (λG Y=>h G (λa w K X=>Y a w ⟨λ_=>K,X K (J.set I hz)⟩))
 ·have I:k∈Region.ready .any ops A:=by rw[U];simp
  exact wpOp_step hj (λG Y=>h2 G (λa w K X=>Y a w ⟨λ_=>K,X K (J.set I V)⟩))
theorem P1{P:Program}{c:Code}{Q:Exit->Act->World->Prop}{a:Act}{w:World}(h:c.wp P (λe a w=>e=.normal/\Q .normal a w) a w):c.wp P Q a w :=
 Code.wp_mono (λe a w h=>by obtain⟨rfl,h2⟩:=h;exact h2) h
theorem Zmz(d:Zg)(hr:Zl d=true)(hd:Hr d)(uk:Option (Nat×List ByteArray))(V H U:Nat)(s:ByteArray)(hs:Rd s)(aj:s.size<=300)(M:Bool)(G:Int)(hG:Ts U)(w:World)(hD:Zz d V H U w)(bo:∀ x,uk=some x->Ug x.1 x.2 H U w/\Y6 x.2)(hT:U8 w) :
  Calls Tryz.prog 123 #[.agg #[.pointer (some ⟨V,0,none⟩),.pointer (uk.map λx=>⟨x.1,0,none⟩),.bool M],.string s,.int .i64 G] w λe w' =>
   ∃ v,e=.returned v/\w'.ownsRow w.heap.size 137 9 v (Ww (Z3 d (uk.map (·.2))) M (Rm G) s).length ((Ww (Z3 d (uk.map (·.2))) M (Rm G) s).flatMap (Yn V (uk.map λx=>⟨x.1,0,none⟩)))/\Zf w w':=by
 have mixed:Tryz.prog.follows .mixedOrders=true:=Kr
 obtain⟨pu,bq⟩:∃ pu,pu=uk.map λx=>(⟨x.1,0,none⟩:Addr):=⟨_,rfl⟩
 obtain⟨D,b9⟩:∃ D,D=Z3 d (uk.map (·.2)):=⟨_,rfl⟩
 have bi:∀ ks,uk.map (·.2)=some ks->Y6 ks:=λks e=>by
  cases uk with
  | none=>cases e
  | some x=>cases e;exact (bo x rfl).2
 have HB:=Hd (Ai1 hD (Ai1 bo (Ai1 hT (Ai1 bq b9))));have ay:=Hd bi;have d1:U<=w.heap.size:=hD.lt.2.2;rw[<- bq,<- b9];clear hD bo hT bq b9 bi
 go_enter_defers Tryz.func123,Tryz.ntmps123
 go_upto_region 3 with (first
  | (go_at_call 157;refine (Zdi _ _ _).mono ?_;rintro e w1 ⟨rfl,h1,h2⟩;have H1:=Hd (Ai1 h1 h2);clear h1 h2)
  | fail)
 obtain⟨kl,bd⟩:∃ kl,kl=w.heap.size+1:=⟨_,rfl⟩;rw[<- bd];have bx:w1.heap[w.heap.size]?=some (.cells #[.pointer (some ⟨V,0,none⟩),.pointer pu,.bool M] 291 (0,0)):=H1.out.2.heap (alloc_at _ _) id
 have b0:w1.heap[kl]?=some (.cells #[.string .empty,.slice none 0 0,.slice none 0 0,.pointer (some ⟨V,0,none⟩),.pointer (uk.map λx=>⟨x.1,0,none⟩)] 300 (0,0)):=by
  have:=H1.out.1;rw[Za,<- bd,HB.out.2.2.2.1]at this;exact this
 have X1:Zf w w1:=((Fl w).alloc _).ext H1.out.2;have CB:=Hd (Ch d hr hd uk V H U kl s hs aj hG w1 b0 Om (HB.out.1.keep X1 (λ_ _ _=>id)) (λx e=>⟨(HB.out.2.1 x e).1.keep X1 (λ_ _ _=>id),(HB.out.2.1 x e).2⟩) (HB.out.2.2.1.ext X1));have J:=Hd (Ai1 X1 (Ai1 bx (Ai1 bd (Gs1.1 b0).1)));clear X1 bx bd b0 H1
 go_upto_region 4 with (first
  | (go_at_call 159;refine CB.out.mono ?_;rintro e w2 ⟨rfl,g,vs,nb,b1,b2,b3,b4,b5⟩;have H2:=Hd (Ai1 b1 (Ai1 b2 (Ai1 b3 (Ai1 b4 b5))));clear b1 b2 b3 b4 b5)
  | fail)
 obtain⟨R,b8⟩:∃ R,R=Lib.runeCount s+2:=⟨_,rfl⟩;obtain⟨ns,bu⟩:∃ ns,ns=lat D s:=⟨_,rfl⟩
 have H2:Hid (Yp w2 g R vs ns nb (λ_=>0) (λ_=>none)/\w2.heap[kl]?=some (.cells (Tl s (.slice none 0 0) g R R (.pointer (some ⟨V,0,none⟩)) (.pointer pu)) 300 (0,0))/\(∀ j,Yz g R vs j->w1.heap.size<=j/\j≠kl)/\(∀ m,m<ns.length->w1.heap.size<=nb m)/\Fr (λj=>j=kl\/w1.heap.size<=j) w1 w2):=by
  have:=H2.out;rw[<- b8,<- HB.out.2.2.2.2,<- bu,<- HB.out.2.2.2.1]at this;exact this
 clear CB;have HE:=Hd (Ai1 b8 bu);have d3:R<=302:=by have:=Lib.runeCount_le s;omega
 have d4:2<=R:=Om
 clear b8 bu;obtain⟨md,cg⟩:∃ md,md=Rm G:=⟨_,rfl⟩;have cy:=Hd cg;clear cg
 go_upto_block 0 with fail
 go_cut [8] from 23 to 29 (λv8 wx=>v8=.int .i64 md/\w2=wx)
 case first =>
  have em:=cy.out;unfold Rm at em;by_cases m1:G=1
  ·subst m1;have em:md=1:=(by simpa using em);have EM:=Hd em;clear em;go_wp2_with fail
   go_meet
   case rel=>exact⟨by rw[EM.out],rfl⟩
  ·by_cases m2:G=2
   ·subst m2;have em:md=2:=(by simpa using em);have EM:=Hd em;clear em m1;go_wp2_with fail
    go_meet
    case rel=>exact⟨by rw[EM.out],rfl⟩
   ·by_cases m3:G=3
    ·subst m3;have em:md=3:=(by simpa using em);have EM:=Hd em;clear em m1 m2;go_wp2_with fail
     go_meet
     case rel=>exact⟨by rw[EM.out],rfl⟩
    ·rw[if_neg m2,if_neg m3]at em;have EM:=Hd em;have e1:(G==1)=false:=(by simpa using m1);have e2:(G==2)=false:=(by simpa using m2);have e3:(G==3)=false:=(by simpa using m3);clear em m1 m2 m3;go_wp2_with fail
     go_meet
     case rel=>exact⟨by rw[EM.out],rfl⟩
 case rest =>
 obtain⟨rfl,e5⟩:=hcut;subst e5;go_step;refine wp_seq_k λK hK=>?_
 have bz:=H2.out.2.1
 have DA:Zz d V H U w2:=by
  have:=J.out.1.size;exact (HB.out.1.keep J.out.1 (λ_ _ _=>id)).keep H2.out.2.2.2.2 (λb _ hb e=>by have:=J.out.2.2.1;omega)
 have bb:∀ m,m<ns.length->U<=nb m/\nb m≠kl:=λm hm=>by
  have:=H2.out.2.2.2.1 m hm;have:=J.out.1.size;have:=J.out.2.2.2;omega
 have bj:∀ x∈ns,Zce d R x:=by
  rw[HE.out.2,HE.out.1,HB.out.2.2.2.2];exact Zjj hr hd _ ay.out hs aj
 have bv:ns.length<=1000000000:=by
  have h1:=Jy hr hd (uk.map (·.2)) ay.out s aj (Lib.runeCount s) (by rw[Tz];omega);have h2:=Lib.runeCount_le s;have:ns.length<=2+Lib.runeCount s*400000:=by rw[HE.out.2,HB.out.2.2.2.2];exact h1
  omega
 have CF:=Zmg d hr (uk.map (·.2)) V H U kl g R R vs ns nb md w2 (Zb bz 2 _ rfl) (Zb bz 3 _ rfl) DA H2.out.1 bj bb Om Om bv;rw[<- HB.out.2.2.2.2]at CF;have cz:=Hd CF;have cx:=Hd (Ai1 bb bv);clear CF bz DA bb bj bv;obtain⟨st,au⟩:∃ st,st=Vy D md ns R:=⟨_,rfl⟩
 go_upto_region 13 with (first
  | (go_at_call 160;refine cz.out.mono ?_;rintro e w3 ⟨rfl,b1,b2⟩;have H3:=Hd (Ai1 b1 b2);clear b1 b2)
  | fail)
 have H3:Hid (Yp w3 g R vs ns nb st.cost st.prev/\Fr (λj=>∃ m,m<ns.length/\j=nb m) w2 w3):=by rw[au];exact H3.out
 have cj:w3.heap[kl]?=some (.cells (Tl s (.slice none 0 0) g R R (.pointer (some ⟨V,0,none⟩)) (.pointer pu)) 300 (0,0)) :=
  H3.out.2.heap H2.out.2.1 (by rintro⟨m,hm,e⟩;exact (cx.out.1 m hm).2 e.symm)
 have aa:=Ml hr hd (uk.map (·.2)) ay.out hs aj;rw[<- HB.out.2.2.2.2,<- HE.out.2]at aa;have cf:(LT.row ns (R-1))[0]?=some 1:=by rw[HE.out.2,HE.out.1];exact Dj D s
 have CW:=Hd (Zmv kl g R R vs ns nb st.cost st.prev md s (.pointer (some ⟨V,0,none⟩)) (.pointer pu) 1 w3 cj H3.out.1 (λm hm=>(cx.out.1 m hm).2) (λe=>(H2.out.2.2.1 kl e).2 rfl) Om Om cf (by rw[au];exact Ms D md ns aa.2 R) aa.1 (by rw[au];exact Fz D md ns R));have cw:=Hd au;clear aa cf au cz
 go_upto_region 14 with (first
  | (go_at_call 161;refine CW.out.mono ?_;rintro e w4 ⟨rfl,vo,bs,b1⟩;have H4:=Hd b1;clear b1)
  | fail)
 obtain⟨tb,a6⟩:∃ tb,tb=w.heap.size:=⟨_,rfl⟩;rw[<- a6]
 have cn:w4.heap[tb]?=some (.cells #[.pointer (some ⟨V,0,none⟩),.pointer pu,.bool M] 291 (0,0)):=by
  have hk:=J.out.2.2.1;have hl:=J.out.2.2.2;rw[a6];refine H4.out.fr.heap (H3.out.2.heap (H2.out.2.2.2.2.heap J.out.2.1 Om) ?_) Om;rintro⟨m,hm,e⟩;have:=H2.out.2.2.2.1 m hm;omega
 obtain⟨ad,ac⟩:∃ ad,ad=Lp D md s:=⟨_,rfl⟩
 have bf:bs.map (·.2)=ad:=by
  have:=H4.out.eq;rw[List.append_nil]at this;rw[this,ac,cw.out,HE.out.2,HE.out.1];rfl
 obtain⟨l,hl⟩:∃ l,l=ad.reverse:=⟨_,rfl⟩;obtain⟨n,hn⟩:∃ n,n=bs.length:=⟨_,rfl⟩;have a8:ad.length=n:=by rw[<- bf,List.length_map,hn]
 have dh:Hid (∀ y∈bs.map (·.2),y.start<=2000000/\y.surf.size<=1000):=by
  show ∀ y∈_,_;rw[bf,ac,HB.out.2.2.2.2];exact Zeu hr hd _ ay.out hs aj md
 have ar:Ww D M md s=Vn M l n:=by
  unfold Ww;rw[<- ac,<- hl,a8]
 have dg:=Hd ar
 have HL:Hid (∀ i (hi:i<n),∃ h2:n-1-i<bs.length,(bs[n-1-i]'h2).2=l.getD i default):=λi hi=>by
  have h2:n-1-i<bs.length:=Om
  refine⟨h2,?_⟩;rw[hl,List.getD_eq_getElem?_getD,List.getElem?_reverse Om,a8,<- bf,List.getElem?_map,Ge h2];rfl
 have bb:n<=1000000000:=by
  have h4:=H4.out.eq;have ci:=congrArg List.length h4;rw[List.append_nil,List.length_map]at ci;have aa:=(Ml hr hd (uk.map (·.2)) ay.out hs aj);rw[<- HB.out.2.2.2.2,<- HE.out.2]at aa;have b6:Zhu ns st.prev:=by rw[cw.out];exact Ms D md ns aa.2 R
  obtain⟨t1,t2⟩:=Vt (List.mem_of_getElem? (show (LT.row ns (R-1))[0]?=some 1 by rw[HE.out.2,HE.out.1];exact Dj D s))
  have h5:((Tc ns st.prev (some 1)).flatMap (λm=>Xf md (ns.getD m default))).length<=R*1000:=by
   refine Nt (Qk _ 1000 _ (λm hm=>O8 md _ ?_)) (Nat.mul_le_mul_right _ (Ju (ns:=ns) (prev:=st.prev) R 1 (by rw[t2];omega)));have ae:=P3 b6 _ _ t1 m hm;have e:ns.getD m default=ns[m]:=by rw[List.getD_eq_getElem?_getD,Ge ae];rfl
   rw[e];exact (aa.1 _ (List.getElem_mem ae)).size
  omega
 obtain⟨Ao,co,c7⟩:=Zm H4.out.out.1;subst c7;rw[<- hn]at H4;have k1:w4.cell? ⟨kl,1,none⟩=some (.slice Ao n co):=Zb H4.out.lat 1 _ rfl;have bm:=lt_of_cell k1;obtain⟨zi,cd,z,hz,ap,az,ai⟩:=Zh4;obtain⟨zc,bn⟩:∃ zc,zc=z.cells:=⟨_,rfl⟩
 have c8:∀ W:World,(Instr.makeSlice 130 (.int .i64 0) (.int .i64 (n:Int))).run Tryz.prog W=.ok (.slice (some ⟨W.heap.size,0,none⟩) 0 n) (W.alloc (.cells (madeCells zc (n*9)) 137)):=λW=>by
  have:=run_make (P:=Tryz.prog) W 130 137 zi _ Tryz.underlying130 cd hz .i64 .i64 0 (n:Nat) Om Om (by rw[az];omega) Om;rw[ap,<- bn]at this;simpa using this
 have HZ:=Hd (Ai1 hz (Ai1 ai (Ai1 bn ap)));clear hz ai bn;have HN:=Hd (Ai1 hn (Ai1 a6 a8));have di:=Hd cn;clear hn a6 a8 bf ac hl ar cn
 have cr:Hid ((w4.alloc (.cells (madeCells zc (n*9)) 137)).ownsRow w4.heap.size 137 9 (.slice (some ⟨w4.heap.size,0,none⟩) 0 n) (Vn M l 0).length ((Vn M l 0).flatMap (Yn V pu))/\Zf w4 (w4.alloc (.cells (madeCells zc (n*9)) 137))) :=
  ⟨World.ownsRow_made w4 _ n (Nl _) (by unfold maxLen;omega) (by rw[size_madeCells]),(Fl _).alloc _⟩
 go_wp2_with fail
 clear c8
 go_loopg [10,48] n (λg1 c3 c1 wr=>∃ (i:Nat) (v:Value),c3=v/\c1=.int .i64 (i:Int)/\i<=n/\n<=i+g1/\Hid (wr.ownsRow w4.heap.size 137 9 v (Vn M l i).length ((Vn M l i).flatMap (Yn V pu))/\Zf w4 wr))
 case atStart=>exact⟨0,_,rfl,rfl,Om,Om,cr⟩
 case round =>
  clear cr k1 bm;obtain⟨i,v,rfl,rfl,hi,d0,HS⟩:=hrel;have k1:wr.cell? ⟨kl,1,none⟩=some (.slice Ao n co):=HS.out.2.cell (Zb H4.out.lat 1 _ rfl) id;have bm:=lt_of_cell k1;by_cases c9:i<n
  ·have dy:(i:Int)<(n:Int):=Om;obtain⟨m,bc⟩:∃ m,m=n-1-i:=⟨_,rfl⟩;obtain⟨ae,hx⟩:=HL.out i c9;rw[<- bc]at ae;simp only[<- bc]at hx;obtain⟨x,a1⟩:∃ x,x=bs[m].2:=⟨_,rfl⟩;obtain⟨b,b7⟩:∃ b,b=bs[m].1:=⟨_,rfl⟩;obtain⟨d5,prv,_,A⟩:=H4.out.out.2 _ (List.getElem_mem ae);rw[<- a1,<- b7]at A;have A:=HS.out.2.heap A id;obtain⟨gs,cs,es,ec,_⟩:=V2 H4.out.out.1 m (by have:=HN.out.1;omega);simp only[Value.slice.injEq]at es;obtain⟨rfl,cm,rfl⟩:=es;clear cm;rw[List.getElem?_map,Ge ae]at ec;replace ec:wr.cell? ⟨gs,m,none⟩=some (.pointer (some ⟨b,0,none⟩)):=HS.out.2.cell (by rw[b7];exact ec) id;have dx:x.start<=2000000/\x.surf.size<=1000:=dh.out x (by rw[a1];exact List.mem_map_of_mem (List.getElem_mem ae));have ce:l.getD i default=x:=(by rw[a1,hx]);have n0:wr.cell? ⟨b,0,none⟩=some (.int .i64 x.id):=Zb A 0 _ rfl;have n1:wr.cell? ⟨b,1,none⟩=some (.int .i64 x.pos):=Zb A 1 _ rfl;have n2:wr.cell? ⟨b,2,none⟩=some (.int .i64 x.start):=Zb A 2 _ rfl;have n3:wr.cell? ⟨b,3,none⟩=some (.int .i64 x.cls):=Zb A 3 _ rfl;have n8:wr.cell? ⟨b,8,none⟩=some (.string x.surf):=Zb A 8 _ rfl;have be:=HS.out.2.heap di.out id;have t0:wr.cell? ⟨tb,0,none⟩=some (.pointer (some ⟨V,0,none⟩)):=Zb be 0 _ rfl;have t1:wr.cell? ⟨tb,1,none⟩=some (.pointer pu):=Zb be 1 _ rfl;have t2:wr.cell? ⟨tb,2,none⟩=some (.bool M):=Zb be 2 _ rfl;have lb:=lt_of_cell n0;have c5:=lt_of_cell t0;have c6:=lt_of_cell ec;have y1:IntKind.i64.wrap ((n:Int)-1)=(n:Int)-1:=by rw[IntKind.wrap_i64];omega
   have y3:(n:Int)-1-(i:Int)=(m:Int):=Om;have y2:IntKind.i64.wrap ((n:Int)-1-(i:Int))=(m:Int):=by rw[IntKind.wrap_i64];omega
   have y6:IntKind.i64.wrap (m:Int)=(m:Int):=by rw[IntKind.wrap_i64];omega
   have y5:(0:Int)<=(m:Int):=Om;have y7:(m:Int)<(n:Int):=Om;have cq:=Hd (Ai1 ce (Ai1 bc A));clear ce bc A a1 b7 be ae hx;obtain⟨sk,ab⟩:∃ sk,sk=(M&&(x.id == -1)):=⟨_,rfl⟩;go_upto_region 20 with fail
   go_cut [69] from 61 to 69 (λc0 wx=>c0=.bool sk/\wr=wx)
   case first =>
    cases M with
    | false =>
     have ab:sk=false:=ab;go_wp2_with fail
     go_meet
     case rel=>exact⟨by rw[ab],rfl⟩
    | true =>
     have ab:sk=(x.id == -1):=ab;have bg:=Hd ab;clear ab;go_wp2_with fail
     go_meet
     case rel=>exact⟨by rw[bg.out],rfl⟩
   case rest =>
   obtain⟨rfl,e5⟩:=hcut;subst e5;go_step
   have bg:Hid (sk=true↔(M=true/\x.id = -1)):=by
    show _↔_;rw[ab];simp
   clear ab
   cases sk with
   | true =>
    have cv:Hid (Vn M l (i+1)=Vn M l i):=by
     show Qt M i (Vn M l i) (l.getD i default)=_;rw[cq.out.1];unfold Qt;rw[if_pos (bg.out.1 rfl)]
    go_wp2_with fail
    go_roundg (n-(i+1))
    case measure=>omega
    case rel=>exact⟨i+1,u10,rfl,by go_num,Om,Om,by rw[cv.out];exact HS.out⟩
   | false =>
    obtain⟨At,ct,hu⟩:=Zm HS.out.1;subst hu;obtain⟨nt,bt⟩:∃ nt,nt=(Vn M l i).length:=⟨_,rfl⟩;have dj:nt<=1000000000:=by have:=L7 M l i;omega
    obtain⟨q,hq⟩:∃ q,q=Lib.runeCount x.surf:=⟨_,rfl⟩;have C1:=λW=>Sv x.surf W Om
    have dw:q<=1000:=by have:=Lib.runeCount_le x.surf;omega
    rw[<- hq]at C1;rw[<- bt];have HQ:=Hd (Ai1 hq bt);clear hq bt;have y8:IntKind.i64.wrap ((x.start:Int)+(q:Int))=(x.start:Int)+(q:Int):=by rw[IntKind.wrap_i64];omega
    go_upto_region 21 with fail
    have hS:∀ W,Zf wr W->W.cell? ⟨b,0,none⟩=some (.int .i64 x.id)/\W.cell? ⟨b,1,none⟩=some (.int .i64 x.pos)/\W.cell? ⟨b,2,none⟩=some (.int .i64 x.start)/\W.cell? ⟨b,3,none⟩=some (.int .i64 x.cls)/\W.cell? ⟨b,8,none⟩=some (.string x.surf)/\W.cell? ⟨tb,0,none⟩=some (.pointer (some ⟨V,0,none⟩))/\W.cell? ⟨tb,1,none⟩=some (.pointer pu):=λW f =>
     ⟨f.cell n0 id,f.cell n1 id,f.cell n2 id,f.cell n3 id,f.cell n8 id,f.cell t0 id,f.cell t1 id⟩
    have ao:=Hd hS;clear hS;obtain⟨tk,ag⟩:∃ tk:Y0,tk=⟨nt,x.id,x.cls,x.pos,x.start,x.start+q,x.surf⟩:=⟨_,rfl⟩
    go_cut [13] from 70 to 106 (λc2 wx=>∃ bk,c2=.pointer (some ⟨bk,0,none⟩)/\Hid (wx.heap[bk]?=some (.cells (Yn V pu tk).toArray 137 (0,0))/\wr.heap.size<=bk/\Zf wr wx))
    case first =>
     refine P1 ?_;refine Ye 38 39 #[false,false,false,false,false,false,false,false,false,false,false,false,false,false,false,false,false,false,false,false,false,false,false,false,false,false,false,false,false,false,false,false,false,false,false,false,false,false,false] (λW=>W.cell? ⟨b,0,none⟩=some (.int .i64 x.id)/\W.cell? ⟨b,1,none⟩=some (.int .i64 x.pos)/\W.cell? ⟨b,2,none⟩=some (.int .i64 x.start)/\W.cell? ⟨b,3,none⟩=some (.int .i64 x.cls)/\W.cell? ⟨b,8,none⟩=some (.string x.surf)/\W.cell? ⟨tb,0,none⟩=some (.pointer (some ⟨V,0,none⟩))/\W.cell? ⟨tb,1,none⟩=some (.pointer pu)) mixed rfl rfl (ao.out wr.drew ((Fl wr).drew)) (λhS=>?_);refine WL.go [(0,70),(1,71),(2,72),(3,73),(4,74),(5,75),(6,76),(7,77),(8,78),(9,79),(10,80),(11,81),(12,82),(13,83),(14,84),(15,85),(16,86),(17,87),(18,88),(19,89),(20,90),(21,91),(22,92),(23,93),(24,94),(25,95),(28,98),(29,99),(30,100),(31,101),(32,102),(33,103),(34,104),(35,105)] ?_;iterate 34 (refine WL.tk (v:=?_) rfl rfl Kr (λ_ _ _ h=>nomatch h.1) (Or.inl ⟨Rf,?_⟩) (by assumption) ?_;rotate_left;(focus (intro w ax;(try obtain⟨s0,s1,s2,s3,s4,s5,s6⟩:=ax);go_simp;(try with_reducible rfl)));simp only[Act.put,Sa,Sb1,Sc])
     refine WZ.two (i:=26) (j:=37) rfl rfl Kr (by decide) (by decide) (λK hK=>?_) (λK hK=>?_)
     ·go_simp;go_wp2_with (go_at_call 162;refine (C1 _).mono ?_;rintro e w5 ⟨rfl,aq⟩;have af:=Hd (((Fe wr).drew).ext aq);clear aq);refine hK.out _ _ (ao.out w5 af.out) (λde=>?_);clear hK K;try simp only[Act.put,Sa,Sb1,Sc]
      refine WL.go [(27,97),(36,106)] ?_;iterate 2 (refine WL.tk (v:=?_) rfl rfl Kr (λ_ _ _ h=>nomatch h.1) (Or.inl ⟨Rf,?_⟩) (by assumption) ?_;rotate_left;(focus (intro w ax;(try obtain⟨s0,s1,s2,s3,s4,s5,s6⟩:=ax);go_simp;(try with_reducible rfl)));simp only[Act.put,Sa,Sb1,Sc])
      refine WZ.one (i:=37) rfl Kr (by decide) (λK hK=>?_);go_simp;refine hK.out _ _ (ao.out _ (af.out.alloc _)) (λcb=>?_);clear hK K;try simp only[Act.put,Sa,Sb1,Sc]
      refine WZ.last rfl Kr Kr (λK hK=>?_);go_simp;refine hK.out _ _ ?_;clear hK K;refine Ai1 rfl ?_;go_wp2_with fail
      go_meet
      case rel =>
       refine⟨w5.heap.size,rfl,?_,af.out.size,af.out.alloc _⟩;rw[ag];exact alloc_at _ _
     ·go_simp;refine hK.out _ _ (ao.out _ (((Fe wr).drew).alloc _)) (λde=>?_);clear hK K;try simp only[Act.put,Sa,Sb1,Sc]
      refine WZ.one (i:=26) rfl Kr (by decide) (λK hK=>?_);go_simp;go_wp2_with (go_at_call 162;refine (C1 _).mono ?_;rintro e w5 ⟨rfl,aq⟩;have af:=Hd aq;clear aq)
      refine hK.out _ _ (ao.out w5 ((((Fe wr).drew).alloc _).ext af.out)) (λd2=>?_);clear hK K;have L:w5.heap[wr.heap.size]?=some (.cells #[.int .i64 0,.int .i64 0,.int .i64 0,.int .i64 0,.int .i64 0,.int .i64 0,.string .empty,.pointer none,.pointer none] 137 (0,0)):=af.out.heap (alloc_at _ _) id;have dm:=(Gs1.1 L).1;have du:w5.cell? ⟨wr.heap.size,0,none⟩=some (.int .i64 0):=Zb L 0 _ rfl;have dt:w5.cell? ⟨wr.heap.size,1,none⟩=some (.int .i64 0):=Zb L 1 _ rfl;have ap:w5.cell? ⟨wr.heap.size,2,none⟩=some (.int .i64 0):=Zb L 2 _ rfl;have az:w5.cell? ⟨wr.heap.size,3,none⟩=some (.int .i64 0):=Zb L 3 _ rfl;have ai:w5.cell? ⟨wr.heap.size,4,none⟩=some (.int .i64 0):=Zb L 4 _ rfl;have ds:w5.cell? ⟨wr.heap.size,5,none⟩=some (.int .i64 0):=Zb L 5 _ rfl;have dr:w5.cell? ⟨wr.heap.size,6,none⟩=some (.string .empty):=Zb L 6 _ rfl;have dq:w5.cell? ⟨wr.heap.size,7,none⟩=some (.pointer none):=Zb L 7 _ rfl;have dp:w5.cell? ⟨wr.heap.size,8,none⟩=some (.pointer none):=Zb L 8 _ rfl;have dn:=Zi L;have df:=Hd L;clear L;try simp only[Act.put,Sa,Sb1,Sc]
      refine WL.go [(27,97),(36,106)] ?_;iterate 2 (refine WL.tk (v:=?_) rfl rfl Kr (λ_ _ _ h=>nomatch h.1) (Or.inl ⟨Rf,?_⟩) (by assumption) ?_;rotate_left;(focus (intro w ax;(try obtain⟨s0,s1,s2,s3,s4,s5,s6⟩:=ax);go_simp;(try with_reducible rfl)));simp only[Act.put,Sa,Sb1,Sc])
      refine WZ.last rfl Kr Kr (λK hK=>?_);go_simp;refine hK.out _ _ ?_;clear hK K;refine Ai1 rfl ?_;go_wp2_with fail
      go_meet
      case rel =>
       refine⟨wr.heap.size,rfl,?_,Nl _,?_⟩
       ·rw[ag];exact Yx (Yx (Yx (Yx (Yx (Yx (Yx (Yx (Yx df.out 0 _) 1 _) 2 _) 3 _) 4 _) 5 _) 6 _) 7 _) 8 _
       ·have X5:Zf wr w5:=(((Fe wr).drew).alloc _).ext af.out;have hi:∀ h:wr.heap.size<wr.heap.size,False:=λh=>Nat.lt_irrefl _ h
        exact ((((((((X5.setCell ⟨wr.heap.size,0,none⟩ _ hi).setCell ⟨wr.heap.size,1,none⟩ _ hi).setCell ⟨wr.heap.size,2,none⟩ _ hi).setCell ⟨wr.heap.size,3,none⟩ _ hi).setCell ⟨wr.heap.size,4,none⟩ _ hi).setCell ⟨wr.heap.size,5,none⟩ _ hi).setCell ⟨wr.heap.size,6,none⟩ _ hi).setCell ⟨wr.heap.size,7,none⟩ _ hi).setCell ⟨wr.heap.size,8,none⟩ _ hi
    case rest =>
    obtain⟨bk,rfl,Z⟩:=hcut;clear ao C1 n0 n1 n2 n3 n8 t0 t1 t2 ec y1 y2 y3 y6 y8 k1 bm lb c5 c6;go_step;refine wp_seq_k λK hK=>?_
    have p1:wc.cell? ⟨bk,1,none⟩=some (.int .i64 x.id):=Zb Z.out.1 1 _ (by rw[ag];rfl);have p6:wc.cell? ⟨bk,6,none⟩=some (.string x.surf):=Zb Z.out.1 6 _ (by rw[ag];rfl);have pf:=Zi Z.out.1;have c4:=pf 6;have cc:=lt_of_cell p1;clear pf;obtain⟨I,ah⟩:∃ I:Y0,I=⟨nt,x.id,x.cls,x.pos,x.start,x.start+q,if x.id = -1 then (if i=0 then Zot else Zor) else x.surf⟩:=⟨_,rfl⟩
    go_cut [] from 107 to 113 (λwx=>Hid (wx.heap[bk]?=some (.cells (Yn V pu I).toArray 137 (0,0))/\Zf wr wx))
    case first =>
     have am:=Hd (Ai1 ag ah);clear ag ah;by_cases ak:x.id = -1
     ·have ck:(x.id == -1)=true:=(by simpa using ak);have bh:=Hd ak;clear ak;by_cases al:i=0
      ·have db:((i:Int)==0)=true:=(by simpa using al);have ca:=Hd al;clear al;go_wp2_with fail
       go_meet
       case rel =>
        refine⟨?_,Z.out.2.2.setCell ⟨bk,6,none⟩ _ (λh=>by have:=Z.out.2.1;simp only at h;omega)⟩;rw[am.out.2,if_pos bh.out,if_pos ca.out];have:=Z.out.1;rw[am.out.1]at this;exact Yx this 6 _
      ·have db:((i:Int)==0)=false:=(by simpa using al);have ca:=Hd al;clear al;go_wp2_with fail
       go_meet
       case rel =>
        refine⟨?_,Z.out.2.2.setCell ⟨bk,6,none⟩ _ (λh=>by have:=Z.out.2.1;simp only at h;omega)⟩;rw[am.out.2,if_pos bh.out,if_neg ca.out];have:=Z.out.1;rw[am.out.1]at this;exact Yx this 6 _
     ·have ck:(x.id == -1)=false:=(by simpa using ak);have bh:=Hd ak;clear ak;go_wp2_with fail
      go_meet
      case rel =>
       refine⟨?_,Z.out.2.2⟩;rw[am.out.2,if_neg bh.out];have:=Z.out.1;rw[am.out.1]at this;exact this
    case rest =>
    have Y:=hcut;clear hcut p1 p6 c4 cc Z;have cu:=Hd ah;clear ag ah;have p0:wc.cell? ⟨bk,0,none⟩=some (.int .i64 I.index):=Zb Y.out.1 0 _ rfl;have p1:wc.cell? ⟨bk,1,none⟩=some (.int .i64 I.id):=Zb Y.out.1 1 _ rfl;have p2:wc.cell? ⟨bk,2,none⟩=some (.int .i64 I.cls):=Zb Y.out.1 2 _ rfl;have p3:wc.cell? ⟨bk,3,none⟩=some (.int .i64 I.pos):=Zb Y.out.1 3 _ rfl;have p4:wc.cell? ⟨bk,4,none⟩=some (.int .i64 I.start):=Zb Y.out.1 4 _ rfl;have p5:wc.cell? ⟨bk,5,none⟩=some (.int .i64 I.fin):=Zb Y.out.1 5 _ rfl;have p6:wc.cell? ⟨bk,6,none⟩=some (.string I.surf):=Zb Y.out.1 6 _ rfl;have p7:wc.cell? ⟨bk,7,none⟩=some (.pointer (some ⟨V,0,none⟩)):=Zb Y.out.1 7 _ rfl;have p8:wc.cell? ⟨bk,8,none⟩=some (.pointer pu):=Zb Y.out.1 8 _ rfl;have cc:=lt_of_cell p0
    have bl:Hid (wc.ownsRow w4.heap.size 137 9 (.slice At nt ct) nt ((Vn M l i).flatMap (Yn V pu))):=by
     have:=Zr HS.out.1 Y.out.2 (λ_ _=>id);rw[<- HQ.out.2]at this;exact this
    have dv:w4.heap.size<=wc.heap.size:=by have:=HS.out.2.size;have:=Y.out.2.size;omega
    have hz:=HZ.out.1;have ai:=HZ.out.2.1;have cp:=Hd (Ai1 hz (Ai1 ai (Ai1 ap az)));clear hz ai
    go_wp2_with (first
     | (at_builtin;refine wpList_append_own_at _ rfl _ _ 130 rfl w4.heap.size 137 zi z 9 80 Tryz.underlying130 cd cp.out.1 ap az cp.out.2.1 (by decide) (.slice At nt ct) nt _ rfl (bl.out.alloc _) ⟨wc.heap.size,0,none⟩ 1 1 (Yn V pu I) rfl rfl (Zhm _ _ _) (Zh5 V pu I) (by unfold maxLen;omega) Om (by simp;omega) ?_;intro v' w7 av aw bw dc;have HE:=Hd (Ai1 av aw);clear av aw bw dc)
     | fail)
    go_roundg (n-(i+1))
    case measure=>omega
    case rel =>
     refine⟨i+1,v',rfl,by go_num,Om,Om,?_⟩
     have e:Vn M l (i+1)=Vn M l i++[I]:=by
      show Qt M i (Vn M l i) (l.getD i default)=_;rw[cq.out.1];unfold Qt;rw[if_neg (λh=>by have:=bg.out.2 h;cases this),cu.out,<- HQ.out.2,<- HQ.out.1]
     rw[e,List.length_append,List.length_singleton,List.flatMap_append,<- HQ.out.2];simp only[List.flatMap_cons,List.flatMap_nil,List.append_nil];have X:Zf w4 (wc.alloc (.cells (Yn V pu I).toArray 137)):=(HS.out.2.ext Y.out.2).alloc _;exact⟨HE.out.1,X.trans ((Fr.refl (λj=>(Value.slice At nt ct).ownBlock=some j) _).grown HE.out.2 (λk e _=>e)) (λj hj e=>by have:=(bl.out.lt j e).1;omega)⟩
  ·have dz:¬ (i:Int)<(n:Int):=Om;go_wp2_with fail
   obtain rfl:i=n:=Om
   have dk:kl<w4.heap.size:=(Gs1.1 H4.out.lat).1;have dl:kl<w3.heap.size:=(Gs1.1 cj).1;have aa:∀ j,Yz g R vs j->j<w4.heap.size:=λj hj=>H4.out.rows.lt Om j hj
   have ch:∀ j,Yz g R vs j->j<w3.heap.size:=λj hj=>H3.out.1.lt Om j hj
   have HQ:FQ kl g R R s (.slice Ao i co) (.pointer (some ⟨V,0,none⟩)) (.pointer pu) (λj=>j=kl\/Yz g R vs j\/(Value.slice Ao i co).ownBlock=some j) wr wr:=by
    have a7:=H4.out.rows.ext HS.out.2;refine⟨HS.out.2.heap H4.out.lat id,Ra.own (Zr H4.out.out.1 HS.out.2 (λ_ _=>id)) (λj e=>⟨.inr (.inr e),?_,?_⟩),λp hp=>⟨vs p,(a7.cell p hp).1,(a7.cell p hp).2,Ra.own (a7.row p hp) (λj e=>⟨.inr (.inl (.inr ⟨p,hp,e⟩)),(H2.out.2.2.1 j (.inr ⟨p,hp,e⟩)).2,λq=>a7.offg p hp (by rw[e,q])⟩)⟩,.inl rfl,.inr (.inl (.inl rfl)),(H2.out.2.2.1 g (.inl rfl)).2,Fl _⟩
    ·have:=(H4.out.out.1.lt j e).1;omega
    ·have:=(H4.out.out.1.lt j e).1;have:=ch g (.inl rfl);omega
   refine leaves_cons (f:=158) (args:=#[.pointer (some ⟨kl,0,none⟩)]) (by simp) (by simp[go_sem]) ?_;refine (Znt kl g R R s _ _ _ _ .returning wr HQ Om (Nl _) Om).mono ?_;rintro e u' w8 ⟨rfl,rfl,cl⟩;refine⟨_,results_tmp rfl _ _ _,u10,rfl,?_,?_⟩
   ·rw[<- cy.out,dg.out];have h0:=HS.out.1
    have h1:=Zr h0 cl (λj e=>by
     have:=(h0.lt j e).1;rintro (q|q|q)
     ·omega
     ·have:=aa j q;omega
     ·have:=(H4.out.out.1.lt j q).2;omega)
    refine T0 h1 ?_;have:=J.out.1.size;have:=H2.out.2.2.2.2.size;have:=H3.out.2.size;have:=H4.out.fr.size;omega
   ·have hk:=J.out.2.2.1;have X2:Zf w w2:=J.out.1.trans H2.out.2.2.2.2 (λj hj e=>by have:=J.out.1.size;omega);have X3:Zf w w3:=X2.trans H3.out.2 (by rintro j hj ⟨m,hm,e⟩;have:=H2.out.2.2.2.1 m hm;have:=J.out.1.size;omega);have X4:Zf w wr:=(X3.trans H4.out.fr (λj hj e=>Om)).then HS.out.2;refine X4.trans cl ?_;rintro j hj (q|q|q)
    ·omega
    ·have:=(H2.out.2.2.1 j q).1;have:=J.out.1.size;omega
    ·have:=(H4.out.out.1.lt j q).1;have:=X3.size;omega
end Go.Proofs.YtlfoalomaofejaaGreatDoor
