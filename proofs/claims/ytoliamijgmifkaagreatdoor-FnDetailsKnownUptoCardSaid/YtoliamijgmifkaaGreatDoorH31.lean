/- impl.analyzed. · impl.tokens.  -/
import Derived.Test.YtoliamijgmifkaaGreatDoorH30
import Derived.Recover
set_option linter.all false
set_option maxRecDepth 100000
set_option maxHeartbeats 2000000
namespace Go.Proofs.YtoliamijgmifkaaGreatDoor
section
open Go.RowKit DT SS TR LT
theorem I9{w:World}(hT:U8 w){U:Nat}(h:w.heap.size<=U):T6 U :=
 ⟨Nat.lt_of_lt_of_le (lt_of_cell (hT.1 0 Om)) h,Nat.lt_of_lt_of_le (lt_of_cell (hT.2 0 Om).1) h⟩
theorem Zjl(p q:Addr)(w:World) :
  CallsD Tryz.prog 78 #[.pointer (some p),.pointer (some q)] .returning w λe u' w'=>e=.returned (.tuple #[])/\u'=.returning/\w'=w:=by
 refine callsD_of_wpS Tryz.func78 rfl λc₀ cs hu=>?_
 apply wpS_seq;apply wpS_region;simp[wpOpsS,go_sem,recoverD,hu,Tryz.ntmps78,Exit.thenS];refine wpS_cond (t:=false) (by simp[Act.eval,Array.replicate]) ?_;simp only[Bool.false_eq_true,if_false];refine wpS_of_wp (wp_skip ?_);cases c₀;simp_all [bodyPostS,results,Tryz.results78]
theorem Co{w w1:World}{o1:Obj}{u v:Value}{T T':TypeId}(h:Zg (((w.alloc o1).alloc (.cells #[u] T)).alloc (.cells #[v] T')) w1) :
  w1.cell? ⟨w.heap.size+1,0,none⟩=some u/\w1.frozen? ⟨w.heap.size+1,0,none⟩=false/\w1.cell? ⟨w.heap.size+1+1,0,none⟩=some v/\w1.frozen? ⟨w.heap.size+1+1,0,none⟩=false/\w.heap.size+1<w1.heap.size/\w.heap.size+1+1<w1.heap.size/\Zg w w1:=by
 have h1:w1.heap[w.heap.size+1]?=some (.cells #[u] T (0,0)):=h.heap (((Fe ((w.alloc o1).alloc (.cells #[u] T))).alloc _).heap (alloc_at' _ _ (by rw[Za])) id) id;have h2:w1.heap[w.heap.size+1+1]?=some (.cells #[v] T' (0,0)):=h.heap (alloc_at' _ _ (by rw[Za,Za])) id;exact⟨Zb h1 0 _ rfl,Zm h1 0,Zb h2 0 _ rfl,Zm h2 0,(Gs1.1 h1).1,(Gs1.1 h2).1,((((Fe w).alloc _).alloc _).alloc _).ext h⟩
abbrev Zew(uks:Option (List ByteArray))(ku:Nat):Option (Nat×List ByteArray):=uks.map λks=>(ku,ks)
abbrev Zin(uks:Option (List ByteArray))(ku:Nat):Option Addr:=(Zew uks ku).map λx=>⟨x.1,0,none⟩
theorem Zhy(uks:Option (List ByteArray))(ku:Nat):(Zew uks ku).map (·.2)=uks:=by cases uks<;>rfl
abbrev XU:={ X:Nat->Nat->Nat->World->Prop // ∀ {ku H U:Nat} {S:Nat->Prop} {w w':World},X ku H U w->Fr S w w'->(∀ b,H<=b->b<U->¬ S b)->X ku H U w' }
def noX:XU:=⟨λ_ _ _ _=>True,λh _ _=>h⟩
def Ig(d:Zj)(cs:List Value)(uks:Option (List ByteArray))(X:XU)(w0:World):Prop :=
 ∀ (om:Bool) (W:World),Zg w0 W->Calls Tryz.prog 57 #[.agg cs.toArray,.bool om] W λe w'=>∃ tk kd H U ku,e=.returned (.tuple #[.pointer (some ⟨tk,0,none⟩),.int .i64 0])/\Zhi d (Zew uks ku) om tk kd H U w'/\X.1 ku H U w'/\W.heap.size<=H/\Zg W w'
theorem M1(d:Zj)(cs:List Value)(O:Nat->Prop)(w:World)(h:tDict.R w O d cs)(hT:U8 w)(hd:Gw d)(hr:Zp d=true)(hu:d.hasUser=false):Ig d cs none noX w:=by
 intro om W f;refine (Zce d cs O om W (tDict.ext h f) (hT.ext f) hd hr hu).mono ?_;rintro e w' ⟨tk,kd,H,U,h1,h2,h3,h4⟩;exact⟨tk,kd,H,U,0,h1,h2,trivial,h3,h4⟩
def Zho(d:Zj)(uks:Option (List ByteArray))(X:XU)(om:Bool)(mode:Int)(s:ByteArray)(w:World)(v:Value)(kd H U ku:Nat)(w':World):Prop :=
 w'.ownsRow w.heap.size 88 9 v (Xn (Zz d uks) om (Wu mode) s).length ((Xn (Zz d uks) om (Wu mode) s).flatMap (Yl kd (Zin uks ku)))/\Z2 d kd H U w'/\(∀ x,Zew uks ku=some x->Ue x.1 x.2 H U w')/\X.1 ku H U w'/\w.heap.size<=H/\Zg w w'
theorem Ie(d:Zj)(cs:List Value)(O:Nat->Prop)(uks:Option (List ByteArray))(X:XU)(s:ByteArray)(hs:Rd s)(hsz:s.size<=300)(mode:Int)(om:Bool)(w:World)(h:tDict.R w O d cs)(hT:U8 w)(hd:Gw d)(hr:Zp d=true)(hTO:Ig d cs uks X w) :
  Calls Tryz.prog 35 #[.agg cs.toArray,.string s,.int .i64 mode,.bool om] w λe w'=>∃ v kd H U ku,e=.returned (.tuple #[v,.int .i64 0])/\Zho d uks X om mode s w v kd H U ku w':=by
 have mixed:Tryz.prog.follows .mixedOrders=true:=Kr
 have H:=Hd (Ai1 hTO hT);have HD:=Hd (Ai1 hd hr);obtain⟨A1,c1,A2,c2,A3,c3,A4,c4,A5,c5,A6,c6,A7,c7,A8,c8,rfl,_⟩:=Ye h;clear h hT hTO hd hr;have hmf:∀ (fn:Fn) (first cap:Array Value) (w:World),(Instr.makeFunc fn first cap).run Tryz.prog w=.ok (.func fn first cap) w:=λ_ _ _ _=>rfl
 go_enter_defers Tryz.func35,Tryz.ntmps35
 go_upto_region 5 with (first
  | (go_at_call 57;refine (H.out.1 _ _ ((((Fl w).alloc _).alloc _).alloc _)).mono ?_;rintro e w1 ⟨tk,kd,HH,U,ku,rfl,h1,hX,h2,hx⟩;obtain⟨b8,f8,b9,f9,l8,l9,hx9⟩:=Co hx;have HX:=Hd (Ai1 hx9 (Ai1 h1 (Ai1 h2 (Ai1 hx.size hX))));clear hx hx9 h1 h2 hX)
  | fail)
 have F1:Fr (λj=>j=w.heap.size+1+1) w1 (w1.setCell ⟨w.heap.size+1+1,0,none⟩ (.int .i64 0)):=(Fl w1).setCell _ _ (λ_=>rfl);have hHH:w.heap.size+3<=HH:=by have:=HX.out.2.2.1;rw[Za,Za,Za]at this;omega
 have hUw:=HX.out.2.1.dict.lt;obtain⟨pu,hpu⟩:∃ pu,pu=((Zew uks ku).map λx=>(⟨x.1,0,none⟩:Addr)):=⟨_,rfl⟩;have tc1:w1.heap[tk]?=some (.cells (Y7 kd pu om) 199 (0,0)):=by rw[hpu];exact HX.out.2.1.cells
 have tc0:=F1.heap tc1 (by
  intro e
  have h1:¬ tk=w.heap.size+1+1:=by
   intro q;have h2:w1.heap[w.heap.size+1+1]?=some (.cells (Y7 kd pu om) 199 (0,0)):=by rw[<- q];exact tc1
   have h3:=Zb h2 0 _ rfl;rw[b9]at h3;cases h3
  exact h1 e)
 have D1:Z2 d kd HH U (w1.setCell ⟨w.heap.size+1+1,0,none⟩ (.int .i64 0)):=HX.out.2.1.dict.keep F1 (λb hb _ e=>Om);have U1:∀ x,Zew uks ku=some x->Ue x.1 x.2 HH U (w1.setCell ⟨w.heap.size+1+1,0,none⟩ (.int .i64 0))/\Y3 x.2:=λx e=>⟨(HX.out.2.1.user x e).1.keep F1 (λb hb _ e=>Om),(HX.out.2.1.user x e).2⟩
 have Z1:=X.2 HX.out.2.2.2.2 F1 (λb hb _ e=>Om);have hT0:=H.out.2;have T1:U8 (w1.setCell ⟨w.heap.size+1+1,0,none⟩ (.int .i64 0)):=(hT0.ext HX.out.1).fr F1 (λe=>by have:=(I9 hT0 (Nl _)).1;omega) (λe=>by have:=(I9 hT0 (Nl _)).2;omega);have hsz1:(w1.setCell ⟨w.heap.size+1+1,0,none⟩ (.int .i64 0)).heap.size=w1.heap.size:=by simp[World.setCell]
 have hG:T6 U:=by have:=I9 hT0 (Nl _);exact⟨by have:=this.1;omega,by have:=this.2;omega⟩
 have c8:=F1.cell b8 ((Om:¬ w.heap.size+1=w.heap.size+1+1));have f8:=(F1.frozen b8 ((Om:¬ w.heap.size+1=w.heap.size+1+1))).trans f8;have c9:(w1.setCell ⟨w.heap.size+1+1,0,none⟩ (.int .i64 0)).cell? ⟨w.heap.size+1+1,0,none⟩=some (.int .i64 0):=World.cell?_setCell_same' _ _ _ (by rw[b9];rfl);have f9:(w1.setCell ⟨w.heap.size+1+1,0,none⟩ (.int .i64 0)).frozen? ⟨w.heap.size+1+1,0,none⟩=false:=by rw[World.frozen?_setCell];exact f9
 have X1:Zg w (w1.setCell ⟨w.heap.size+1+1,0,none⟩ (.int .i64 0)):=HX.out.1.trans F1 (λj hj e=>Om);have CA:=Zoh d HD.out.2 HD.out.1 (Zew uks ku) kd HH U s hs hsz om mode hG _ D1 U1 T1;rw[<- hpu,Zhy]at CA;obtain⟨TL,hTL⟩:∃ TL,TL=Xn (Zz d uks) om (Wu mode) s:=⟨_,rfl⟩;rw[<- hTL]at CA;replace CA:=Hd CA;have HPU:=Hd (Ai1 hpu hTL);have t0:=Zb tc0 0 _ rfl;have t1:=Zb tc0 1 _ rfl;have t2:=Zb tc0 2 _ rfl;have lt0:=lt_of_cell t0;have HW:=Hd (Ai1 X1 (Ai1 D1 (Ai1 U1 (Ai1 hHH Z1))));clear F1 tc0 tc1 hpu hTL D1 U1 T1 hT0 b8 b9 X1 hG Z1;generalize w1.setCell ⟨w.heap.size+1+1,0,none⟩ (.int .i64 0)=w2 at hsz1 c8 f8 c9 f9 t0 t1 t2 lt0 CA HW⊢;have HSZ:=Hd hsz1;clear hsz1
 go_wp2_with (first
  | (go_at_call 79;refine CA.out.mono ?_;rintro e w3 ⟨v,rfl,h1,hx⟩;obtain⟨Av,cv,hv⟩:=Zn h1;subst hv;have d8:=hx.cell c8 id;have g8:=(hx.frozen c8 id).trans f8;have d9:=hx.cell c9 id;have g9:=(hx.frozen c9 id).trans f9;have l8:=lt_of_cell d8;have l9:=lt_of_cell d9;have H3:=Hd (Ai1 h1 hx);clear h1 hx)
  | fail)
 refine leaves_cons (f:=78) (args:=#[.pointer (some ⟨w.heap.size+1,0,none⟩),.pointer (some ⟨w.heap.size+1+1,0,none⟩)]) (by simp) (by simp[go_sem]) ?_;refine (Zjl _ _ _).mono ?_;rintro e u' w8 ⟨rfl,rfl,rfl⟩;simp[Leaves,settle,results,Tryz.results35,go_sem,d8,d9,g8,g9]
 have F:Fr (λj=>j=w.heap.size+1\/j=w.heap.size+1+1) w3 ((w3.setCell ⟨w.heap.size+1,0,none⟩ (.slice Av TL.length cv)).setCell ⟨w.heap.size+1+1,0,none⟩ (.int .i64 0)) :=
  ((Fr.refl (λj=>j=w.heap.size+1\/j=w.heap.size+1+1) w3).setCell ⟨w.heap.size+1,0,none⟩ _ (λ_=>.inl rfl)).setCell ⟨w.heap.size+1+1,0,none⟩ _ (λ_=>.inr rfl)
 have hw1:=HX.out.1.size;have hs2:=HSZ.out;have hb3:=HW.out.2.2.2.1;have hk:∀ b,HH<=b->b<U->¬ (b=w.heap.size+1\/b=w.heap.size+1+1):=λb hb _=>by omega
 have hT3:=HPU.out.2;refine⟨kd,HH,U,ku,?_,(HW.out.2.1.keep H3.out.2 (λ_ _ _=>id)).keep F hk,λx e=>((HW.out.2.2.1 x e).1.keep H3.out.2 (λ_ _ _=>id)).keep F hk,X.2 (X.2 HW.out.2.2.2.2 H3.out.2 (λ_ _ _=>id)) F hk,Om,(HW.out.1.ext H3.out.2).trans F (λj hj e=>Om)⟩;rw[<- hT3,show Zin uks ku=pu from HPU.out.1.symm];refine U6 (Zu H3.out.1 F (λj e=>?_)) Om;have:=(H3.out.1.lt j e).1;rintro (q|q)<;>omega
end
section
open Go.RowKit DT SS TR LT
theorem flat_get{α:Type}(f:α->List Value)(k:Nat)(hk:∀ x,(f x).length=k):∀ (l:List α) (i j:Nat) (hi:i<l.length),j<k->(l.flatMap f)[i*k+j]?=(f l[i])[j]?
 | x::l,0,j,_,hj=>by
  rw[List.flatMap_cons,Nat.zero_mul,Nat.zero_add,List.getElem?_append_left (by rw[hk];exact hj)];rfl
 | x::l,i+1,j,hi,hj=>by
  rw[List.flatMap_cons,List.getElem?_append_right (by rw[hk,Nat.add_mul];omega),hk,show (i+1)*k+j-k=i*k+j by rw[Nat.add_mul];omega];exact flat_get f k hk l i j (by simpa using hi) hj
abbrev Ru(t:Yu):List Value:=[.int .i64 t.index,.int .i64 t.id,.int .i64 t.cls,.int .i64 t.pos,.int .i64 t.start,.int .i64 t.fin,.string t.surf]
theorem Zj1(t:Yu):∀ u∈Ru t,u.oneCell'=true:=by
 intro u hu;simp only[Ru,List.mem_cons,List.mem_nil_iff,or_false]at hu;rcases hu with rfl|rfl|rfl|rfl|rfl|rfl|rfl<;>rfl
theorem Zh9:∃ i,Tryz.prog.info? 42=some i/\∃ z:Value,i.zero=some z/\i.size=7/\i.bytes=64/\z.cells.size=7:=by
 have h:(Tryz.prog.info? 42).map (λi=>(i.zero.map (λz=>z.cells.size),i.size,i.bytes))=some (some 7,7,64):=Kr
 cases hi:Tryz.prog.info? 42 with
 | none=>rw[hi]at h;cases h
 | some i =>
  rw[hi]at h;simp only[Option.map_some,Option.some.injEq,Prod.mk.injEq]at h;obtain⟨h1,h2,h3⟩:=h
  cases hz:i.zero with
  | none=>rw[hz]at h1;cases h1
  | some z =>
   rw[hz]at h1;exact⟨i,rfl,z,hz,h2,h3,by simpa using h1⟩
theorem Zjj(w:World)(o:Obj)(cs:List Value)(T:TypeId):∀ j u,cs[j]?=some u->((w.alloc o).alloc (.cells cs.toArray T)).cell? ((⟨w.heap.size+1,0,none⟩:Addr).add j)=some u:=λj u h=>by
 have:=B3 (w.alloc o) cs T j u h;rw[Za]at this;exact this
theorem Zex(B kd:Nat)(pu:Option Addr)(v:Value)(ts:List Yu)(w:World)(h:w.ownsRow B 88 9 v ts.length (ts.flatMap (Yl kd pu)))(hn:ts.length<=1000000000) :
  Calls Tryz.prog 36 #[v] w λe w'=>∃ v',e=.returned v'/\w'.ownsRow w.heap.size 42 7 v' ts.length (ts.flatMap Ru)/\Zg w w':=by
 obtain⟨A,c,hv⟩:=Zn h;subst hv;obtain⟨n,hne⟩:∃ n,n=ts.length:=⟨_,rfl⟩;rw[<- hne]at h hn;have HO:=Hd h;have HN:=Hd hne;obtain⟨zi,hzi,z,hz,hz2,hz3,hz4⟩:=Zh9;have HZ:=Hd (Ai1 hz hz4);rw[<- hne];clear h hne hz hz4;go_enter Tryz.func36,Tryz.ntmps36
 go_wp2_with fail
 go_loopg [3,8] n (λg1 v3 v8 wr=>∃ (i:Nat) (u:Value),v3=u/\v8=.int .i64 (i:Int)/\i<=n/\n<=i+g1/\Hid (wr.ownsRow w.heap.size 42 7 u i ((ts.take i).flatMap Ru)/\Zg w wr))
 case atStart=>exact⟨0,_,rfl,rfl,Om,Om,World.ownsRow_nil _ _ _ _,Fl _⟩
 case round =>
  obtain⟨i,u,rfl,rfl,hi,hg,HR⟩:=hrel;by_cases hlt:i<n
  ·have hlz:(i:Int)<(n:Int):=Om;have hz0:(0:Int)<=(i:Int):=Om;have hil:i<ts.length:=by rw[<- HN.out];exact hlt
   obtain⟨t,ht⟩:∃ t,t=ts[i]:=⟨_,rfl⟩
   have hget:∀ j,j<9->∃ g,A=some ⟨g,0,none⟩/\wr.cell? ⟨g,i*9+j,none⟩=(Yl kd pu t)[j]?:=λj hj=>by
    obtain⟨g,c',e,ec,_⟩:=Xq HO.out (i*9+j) Om;simp only[Value.slice.injEq]at e;obtain⟨rfl,_,rfl⟩:=e;refine⟨g,rfl,?_⟩;rw[flat_get (Yl kd pu) 9 (λ_=>rfl) ts i j hil hj,<- ht]at ec;have h9:j<(Yl kd pu t).length:=hj;rw[Ge h9]at ec⊢;exact HR.out.2.cell ec id
   obtain⟨g,rfl,e0⟩:=hget 0 Om
   have hg':∀ j,j<9->wr.cell? ⟨g,i*9+j,none⟩=(Yl kd pu t)[j]?:=λj hj=>by
    obtain⟨g',eg,e⟩:=hget j hj;cases eg;exact e
   have q0:wr.cell? ⟨g,i*9,none⟩=some (.int .i64 t.index):=hg' 0 Om;have q1:wr.cell? ⟨g,i*9+1,none⟩=some (.int .i64 t.id):=hg' 1 Om;have q2:wr.cell? ⟨g,i*9+2,none⟩=some (.int .i64 t.cls):=hg' 2 Om;have q3:wr.cell? ⟨g,i*9+3,none⟩=some (.int .i64 t.pos):=hg' 3 Om;have q4:wr.cell? ⟨g,i*9+4,none⟩=some (.int .i64 t.start):=hg' 4 Om;have q5:wr.cell? ⟨g,i*9+5,none⟩=some (.int .i64 t.fin):=hg' 5 Om;have q6:wr.cell? ⟨g,i*9+6,none⟩=some (.string t.surf):=hg' 6 Om;have q7:wr.cell? ⟨g,i*9+7,none⟩=some (.pointer (some ⟨kd,0,none⟩)):=hg' 7 Om;have q8:wr.cell? ⟨g,i*9+8,none⟩=some (.pointer pu):=hg' 8 Om;have lg:=lt_of_cell q0
   have HT:Hid (ts.take (i+1)=ts.take i++[t]):=by
    show _=_;rw[List.take_succ_eq_append_getElem hil,ht]
   have hwr:w.heap.size<=wr.heap.size:=HR.out.2.size;clear hget hg' e0 ht hil
   go_wp2_with (first
    | (at_builtin;refine wpList_append_own_at _ rfl _ _ 34 rfl w.heap.size 42 zi z 7 64 Tryz.underlying34 hzi HZ.out.1 hz2 hz3 HZ.out.2 (by decide) u3 i _ rfl ((HR.out.1.alloc _).alloc _) ⟨wr.heap.size+1,0,none⟩ 1 1 (Ru t) rfl rfl (Zjj _ _ _ _) (Zj1 t) (by unfold maxLen;omega) Om (by simp;omega) ?_;intro v' w7 hown' hgrow hnil' hat;have HE:=Hd (Ai1 hown' hgrow);clear hown' hgrow hnil' hat)
    | fail)
   go_roundg (n-(i+1))
   case measure=>omega
   case rel =>
    refine⟨i+1,v',rfl,by go_num,Om,Om,?_,?_⟩
    ·rw[HT.out,List.flatMap_append];simp only[List.flatMap_cons,List.flatMap_nil,List.append_nil];exact HE.out.1
    ·have X:Zg w _:=(HR.out.2.alloc (.cells (Yl kd pu t).toArray 88)).alloc (.cells (Ru t).toArray 42);exact X.trans ((Fr.refl (λj=>u3.ownBlock=some j) _).grown HE.out.2 (λk e _=>e)) (λj hj e=>by have:=(HR.out.1.lt j e).1;omega)
  ·obtain rfl:i=n:=Om
   go_wp2_with fail
   first|go_ret|go_ret2
   have:=HR.out.1;rw[HN.out,List.take_length,<- HN.out]at this;exact⟨_,rfl,this,HR.out.2⟩
end
section
open Go.RowKit DT SS TR LT
theorem Vl{d:Zj}(hr:Zp d=true)(hd:Gw d)(uk:Option (List ByteArray))(hu:∀ ks,uk=some ks->Y3 ks){s:ByteArray}(hs:Rd s)(hsz:s.size<=300)(om:Bool)(mode:Int):(Xn (Zz d uk) om mode s).length<=1000000000:=by
 refine Nt (Hi _ _ _) ?_;have hlo:=Jg hr hd uk hu hs hsz;have t1:=Vx (List.mem_of_getElem? (Zax (Zz d uk) s));have hdesc:=J5 (Zz d uk) mode _ hlo.2 (Lib.runeCount s+2);have h2:=G8 (ns:=lat (Zz d uk) s) (prev:=(V3 (Zz d uk) mode (lat (Zz d uk) s) (Lib.runeCount s+2)).prev) (Lib.runeCount s+2) 1 (by rw[t1.2];omega)
 have h3:(I3 (Zz d uk) mode s).length<=(Lib.runeCount s+2)*1000:=by
  refine Nt (O8 _ 1000 _ (λm hm=>Lj mode _ ?_)) (Nat.mul_le_mul_right _ h2);have hml:=Mh hdesc _ _ t1.1 m hm;have e:(lat (Zz d uk) s).getD m default=(lat (Zz d uk) s)[m]:=by rw[List.getD_eq_getElem?_getD,Ge hml];rfl
  rw[e];exact (hlo.1 _ (List.getElem_mem hml)).size
 have:=Lib.runeCount_le s;omega
theorem Va(d:Zj)(cs:List Value)(O:Nat->Prop)(uks:Option (List ByteArray))(X:XU)(huk:∀ ks,uks=some ks->Y3 ks)(s:ByteArray)(hs:Rd s)(hsz:s.size<=300)(mode:Int)(om:Bool)(w:World)(h:tDict.R w O d cs)(hT:U8 w)(hd:Gw d)(hr:Zp d=true)(hTO:Ig d cs uks X w) :
  Calls Tryz.prog 12 #[.agg cs.toArray,.string s,.int .i64 mode,.bool om] w λe w'=>∃ v,e=.returned (.tuple #[v,.int .i64 0])/\w'.ownsRow w.heap.size 42 7 v (Xn (Zz d uks) om (Wu mode) s).length ((Xn (Zz d uks) om (Wu mode) s).flatMap Ru)/\Zg w w':=by
 have H:=Hd (Ai1 h (Ai1 hT hTO));have hlen:=Vl hr hd uks huk hs hsz om (Wu mode);obtain⟨A1,c1,A2,c2,A3,c3,A4,c4,A5,c5,A6,c6,A7,c7,A8,c8,rfl,_⟩:=Ye h;have HD:=Hd (Ai1 hd (Ai1 hr huk));clear h hT hTO hd hr huk;obtain⟨TL,hTL⟩:∃ TL,TL=Xn (Zz d uks) om (Wu mode) s:=⟨_,rfl⟩;rw[<- hTL]at hlen⊢;have HTL:=Hd hTL;have HLEN:=Hd hlen;clear hTL hlen;go_enter Tryz.func12,Tryz.ntmps12
 go_wp2_with (first
  | (go_at_call 35;refine (Ie d _ O uks X s hs hsz mode om _ (tDict.ext H.out.1 ((Fl w).alloc _)) (H.out.2.1.ext ((Fl w).alloc _)) HD.out.1 HD.out.2.1 (λom W f=>H.out.2.2 om W (((Fl w).alloc _).then f))).mono ?_;rintro e w1 ⟨v,kd,HH,U,ku,rfl,hx⟩;unfold Zho at hx;rw[<- HTL.out]at hx;have HX:=Hd hx;clear hx)
  | (go_at_call 36;refine (Zex _ kd _ v TL _ HX.out.1 HLEN.out).mono ?_;rintro e w2 ⟨v2,rfl,h1,hx⟩;have HY:=Hd (Ai1 h1 hx);clear h1 hx)
  | fail)
 first|go_ret|go_ret2
 have X1:=((Fe w).alloc _).then HX.out.2.2.2.2.2;exact⟨_,rfl,U6 HY.out.1 X1.size,X1.then HY.out.2⟩
end
section
open Go.RowKit DT SS TR LT
theorem Kh(w:World):∀ (os:List Obj) (w1:World),Zg w w1->Zg w (os.foldl World.alloc w1)
 | [],_,h=>h
 | o::os,w1,h=>Kh w os (w1.alloc o) (h.alloc o)
theorem Af:∀ (os:List Obj) (w:World) (k:Nat) (o:Obj),os[k]?=some o->(os.foldl World.alloc w).heap[w.heap.size+k]?=some o
 | [],_,k,o,h=>by simp at h
 | o'::os,w,0,o,h=>by
  have:o'=o:=by simpa using h
  subst this;show (os.foldl World.alloc (w.alloc o')).heap[w.heap.size+0]?=some o';exact (Kh (w.alloc o') os _ (Fl _)).heap (alloc_at w o') id
 | o'::os,w,k+1,o,h=>by
  have:=Af os (w.alloc o') k o (by simpa using h);rw[Za,(Om:w.heap.size+1+k=w.heap.size+(k+1))]at this;exact this
section
variable{w:World}{O:Nat->Prop}
theorem Zgo{A:Option Addr}{l:List ByteArray}{c:Nat}(h1:l.length<=c)(h2:A=none->c=0)(h3:Ty.str.At w O A l):strs.R w O l [.slice A l.length c]:=⟨A,c,rfl,h1,h2,h3⟩
theorem Zcf{x:GWord}{p q:Value}(h1:strs.R w O x.pos [p])(h2:strs.R w O x.contents [q])(h3:x.surface.size<=9223372036854775807)(h4:-9223372036854775808<=x.left/\x.left<=9223372036854775807)(h5:-9223372036854775808<=x.right/\x.right<=9223372036854775807)(h6:-9223372036854775808<=x.weight/\x.weight<=9223372036854775807) :
  tWord.R w O x [.string x.surface,.int .i64 x.left,.int .i64 x.right,.int .i64 x.weight,p,q] :=
 ⟨[_],_,rfl,⟨rfl,h3⟩,[_],_,rfl,⟨rfl,h4⟩,[_],_,rfl,⟨rfl,h5⟩,[_],_,rfl,⟨rfl,h6⟩,[_],[_],rfl,h1,h2⟩
theorem Zid{x:Tl}(h:x.name.size<=9223372036854775807):tClass.R w O x [.string x.name,.bool x.invoke,.bool x.group]:=⟨[_],_,rfl,⟨rfl,h⟩,[_],[_],rfl,⟨rfl,trivial⟩,⟨rfl,trivial⟩⟩
theorem Zm2{x:GUnk}{q:Value}(h1:strs.R w O x.contents [q])(h3:-9223372036854775808<=x.cls/\x.cls<=9223372036854775807)(h4:-9223372036854775808<=x.left/\x.left<=9223372036854775807)(h5:-9223372036854775808<=x.right/\x.right<=9223372036854775807)(h6:-9223372036854775808<=x.weight/\x.weight<=9223372036854775807) :
  tUnk.R w O x [.int .i64 x.cls,.int .i64 x.left,.int .i64 x.right,.int .i64 x.weight,q] :=
 ⟨[_],_,rfl,⟨rfl,h3⟩,[_],_,rfl,⟨rfl,h4⟩,[_],_,rfl,⟨rfl,h5⟩,[_],[_],rfl,⟨rfl,h6⟩,h1⟩
theorem Zj4{d:Zj}{A1 A2 A3 A4 A5 A6 A7 A8:Option Addr}{c1 c2 c3 c4 c5 c6 c7 c8:Nat}(h1:d.words.length<=c1/\(A1=none->c1=0)/\tWord.At w O A1 d.words)(h2:d.costs.length<=c2/\(A2=none->c2=0)/\Ty.int.At w O A2 d.costs)
  (h3:d.classes.length<=c3/\(A3=none->c3=0)/\tClass.At w O A3 d.classes) (h4:d.chars.length<=c4/\(A4=none->c4=0)/\tChars.At w O A4 d.chars) (h5:d.unknown.length<=c5/\(A5=none->c5=0)/\tUnk.At w O A5 d.unknown) (h6:d.meta0.length<=c6/\(A6=none->c6=0)/\tMark.At w O A6 d.meta0)
  (h7:d.unkMeta.length<=c7/\(A7=none->c7=0)/\tMark.At w O A7 d.unkMeta) (h8:d.user.length<=c8/\(A8=none->c8=0)/\tRec.At w O A8 d.user) (hr:-9223372036854775808<=d.rows/\d.rows<=9223372036854775807) (hc:-9223372036854775808<=d.cols/\d.cols<=9223372036854775807) :
  tDict.R w O d [.slice A1 d.words.length c1,.int .i64 d.rows,.int .i64 d.cols,.slice A2 d.costs.length c2,.slice A3 d.classes.length c3,.slice A4 d.chars.length c4,.slice A5 d.unknown.length c5,.slice A6 d.meta0.length c6,.slice A7 d.unkMeta.length c7,.bool d.hasUser,.slice A8 d.user.length c8] :=
 ⟨[_],_,rfl,⟨A1,c1,rfl,h1⟩,[_],_,rfl,⟨rfl,hr⟩,[_],_,rfl,⟨rfl,hc⟩,[_],_,rfl,⟨A2,c2,rfl,h2⟩,[_],_,rfl,⟨A3,c3,rfl,h3⟩,[_],_,rfl,⟨A4,c4,rfl,h4⟩,[_],_,rfl,⟨A5,c5,rfl,h5⟩,[_],_,rfl,⟨A6,c6,rfl,h6⟩,[_],_,rfl,⟨A7,c7,rfl,h7⟩,[_],[_],rfl,⟨rfl,trivial⟩,⟨A8,c8,rfl,h8⟩⟩
theorem Dp{α:Type}(d:Ty α)(A:Option Addr):d.At w O A []:=⟨by simp,.inl rfl⟩
theorem Zbu{α:Type}(d:Ty α){b:Nat}{cs:List Value}{x:α}{rest:Array Value}{T:TypeId}(hb:w.heap[b]?=some (.cells rest T (0,0)))(hO:O b)(hr:d.R w O x cs)(hc:∀ j (hj:j<cs.length),rest[j]?=some cs[j]):d.At w O (some ⟨b,0,none⟩) [x]:=by
 refine⟨by simp,.inr ⟨b,0,rfl,hO,(Gs1.1 hb).1,λi hi=>?_⟩⟩;obtain rfl:i=0:=by simp at hi;omega
 exact⟨cs,hr,λj hj=>by rw[Nat.zero_mul,Nat.zero_add];exact Zb hb j _ (hc j hj)⟩
theorem Zaq{b:Nat}{x:ByteArray}{T:TypeId}(hb:w.heap[b]?=some (.cells #[.string x] T (0,0)))(hO:O b)(hx:x.size<=9223372036854775807):strs.R w O [x] [.slice (some ⟨b,0,none⟩) 1 1] :=
 Zgo (Nl _) (λe=>by cases e) (Zbu Ty.str hb hO (cs:=[.string x]) ⟨rfl,hx⟩ (λj hj=>by
  obtain rfl:j=0:=by simp at hj;omega
  rfl))
theorem Cu:strs.R w O [] [.slice none 0 0]:=Zgo (Nl _) (λ_=>rfl) (Dp _ _)
end
abbrev sb(l:List UInt8):ByteArray:=⟨l.toArray⟩
def Kq:Zj:=⟨[⟨sb [97],0,0,5,[sb [110]],[sb [120]]⟩,⟨sb [97,98],0,0,3,[sb [118]],[]⟩],1,1,[0],[⟨sb [68,69,70,65,85,76,84],false,false⟩],[],[⟨0,0,0,9,[]⟩],[],[],false,[]⟩
abbrev sl1(b n:Nat):Value:=.slice (some ⟨b,0,none⟩) n n
def Oj(N:Nat):List Obj:=[
 .cells #[sl1 (N+4) 2,.int .i64 1,.int .i64 1,sl1 (N+5) 1,sl1 (N+6) 1,.slice none 0 0,sl1 (N+7) 1,.slice none 0 0,.slice none 0 0,.bool false,.slice none 0 0] 30 (0,0),
 .cells #[.string (sb [110])] 9 (0,0),
 .cells #[.string (sb [120])] 9 (0,0),
 .cells #[.string (sb [118])] 9 (0,0),
 .cells #[.string (sb [97]),.int .i64 0,.int .i64 0,.int .i64 5,sl1 (N+1) 1,sl1 (N+2) 1,.string (sb [97,98]),.int .i64 0,.int .i64 0,.int .i64 3,sl1 (N+3) 1,.slice none 0 0] 45 (0,0),
 .cells #[.int .i64 0] 3 (0,0),
 .cells #[.string (sb [68,69,70,65,85,76,84]),.bool false,.bool false] 139 (0,0),
 .cells #[.int .i64 0,.int .i64 0,.int .i64 0,.int .i64 9,.slice none 0 0] 61 (0,0)]
theorem Zow(w:World):tDict.R ((Oj w.heap.size).foldl World.alloc w) (λ_=>True) Kq [sl1 (w.heap.size+4) 2,.int .i64 1,.int .i64 1,sl1 (w.heap.size+5) 1,sl1 (w.heap.size+6) 1,.slice none 0 0,sl1 (w.heap.size+7) 1,.slice none 0 0,.slice none 0 0,.bool false,.slice none 0 0]:=by
 have at':=λk o h=>Af (Oj w.heap.size) w k o h
 generalize (Oj w.heap.size).foldl World.alloc w=W at at'⊢;generalize w.heap.size=N at at'⊢;have b1:=at' 1 _ rfl;have b2:=at' 2 _ rfl;have b3:=at' 3 _ rfl;have b4:=at' 4 _ rfl;have b5:=at' 5 _ rfl;have b6:=at' 6 _ rfl;have b7:=at' 7 _ rfl;have two:∀ l:List UInt8,l.length<=10->(sb l).size<=9223372036854775807:=λl h=>by show l.length<=_;omega
 have z0:(-9223372036854775808:Int)<=0/\(0:Int)<=9223372036854775807:=Om
 refine Zj4 (d:=Kq) (w:=W) (O:=λ_=>True) ⟨Nl _,(λe=>by cases e),?_⟩ ⟨Nl _,(λe=>by cases e),?_⟩ ⟨Nl _,(λe=>by cases e),?_⟩ ⟨Nl _,(λ_=>rfl),Dp _ _⟩ ⟨Nl _,(λe=>by cases e),?_⟩ ⟨Nl _,(λ_=>rfl),Dp _ _⟩ ⟨Nl _,(λ_=>rfl),Dp _ _⟩ ⟨Nl _,(λ_=>rfl),Dp _ _⟩ (by show (-9223372036854775808:Int)<=1/\(1:Int)<=9223372036854775807;omega) (by show (-9223372036854775808:Int)<=1/\(1:Int)<=9223372036854775807;omega)
 ·refine⟨by show 2<=9223372036854775807;omega,.inr ⟨N+4,0,rfl,trivial,(Gs1.1 b4).1,λi hi=>?_⟩⟩;have hi2:i<2:=hi
  match i,hi2 with
  | 0,_ =>
   refine⟨_,Zcf (x:=⟨sb [97],0,0,5,[sb [110]],[sb [120]]⟩) (Zaq b1 trivial (two _ (by decide))) (Zaq b2 trivial (two _ (by decide))) (two _ (by decide)) z0 z0 (by show (-9223372036854775808:Int)<=5/\(5:Int)<=9223372036854775807;omega),λj hj=>?_⟩;have hj2:j<6:=hj
   match j,hj2 with
   | 0,_=>exact Zb b4 0 _ rfl
   | 1,_=>exact Zb b4 1 _ rfl
   | 2,_=>exact Zb b4 2 _ rfl
   | 3,_=>exact Zb b4 3 _ rfl
   | 4,_=>exact Zb b4 4 _ rfl
   | 5,_=>exact Zb b4 5 _ rfl
  | 1,_ =>
   refine⟨_,Zcf (x:=⟨sb [97,98],0,0,3,[sb [118]],[]⟩) (Zaq b3 trivial (two _ (by decide))) Cu (two _ (by decide)) z0 z0 (by show (-9223372036854775808:Int)<=3/\(3:Int)<=9223372036854775807;omega),λj hj=>?_⟩;have hj2:j<6:=hj
   match j,hj2 with
   | 0,_=>exact Zb b4 6 _ rfl
   | 1,_=>exact Zb b4 7 _ rfl
   | 2,_=>exact Zb b4 8 _ rfl
   | 3,_=>exact Zb b4 9 _ rfl
   | 4,_=>exact Zb b4 10 _ rfl
   | 5,_=>exact Zb b4 11 _ rfl
 ·exact Zbu Ty.int b5 trivial (cs:=[.int .i64 0]) ⟨rfl,z0⟩ (λj hj=>by
   obtain rfl:j=0:=by simp at hj;omega
   rfl)
 ·exact Zbu tClass b6 trivial (Zid (x:=⟨sb [68,69,70,65,85,76,84],false,false⟩) (two _ (by decide))) (λj hj=>by
   have hj2:j<3:=hj
   match j,hj2 with
   | 0,_=>rfl
   | 1,_=>rfl
   | 2,_=>rfl)
 ·exact Zbu tUnk b7 trivial (Zm2 (x:=⟨0,0,0,9,[]⟩) Cu z0 z0 z0 (by show (-9223372036854775808:Int)<=9/\(9:Int)<=9223372036854775807;omega)) (λj hj=>by
   have hj2:j<5:=hj
   match j,hj2 with
   | 0,_=>rfl
   | 1,_=>rfl
   | 2,_=>rfl
   | 3,_=>rfl
   | 4,_=>rfl)
theorem Zj2(w:World):Calls Tryz.prog 34 #[] w λe w'=>∃ cs,e=.returned (.agg cs.toArray)/\tDict.R w' (λ_=>True) Kq cs/\Zg w w':=by
 have hR:=Zow w;have hX:=Kh w (Oj w.heap.size) w (Fl _);have HR:=Hd (Ai1 hR hX);clear hR hX;go_enter Tryz.func34,Tryz.ntmps34
 go_wp2_with fail
 refine bodyPost_ret (v:=.agg #[sl1 (w.heap.size+4) 2,.int .i64 1,.int .i64 1,sl1 (w.heap.size+5) 1,sl1 (w.heap.size+6) 1,.slice none 0 0,sl1 (w.heap.size+7) 1,.slice none 0 0,.slice none 0 0,.bool false,.slice none 0 0]) (by simp[results,Tryz.results34,go_sem]) rfl ⟨_,rfl,HR.out.1,HR.out.2⟩
end
section
open Go.RowKit DT SS TR LT
theorem Zia:Xn (Zz Kq none) true (Wu 1) (sb [97,98,98])=[⟨0,1,1,0,0,2,sb [97,98]⟩,⟨1,0,2,2,2,3,sb [98]⟩]:=Kr
theorem Fh:Zp Kq=true:=Kr
theorem Zmz:Rd (sb [97,98,98]):=by
 intro c hc;have e:Zh (sb [97,98,98])=[[97],[98],[98]]:=Kr
 rw[e]at hc;simp only[List.mem_cons,List.mem_nil_iff,or_false]at hc;rcases hc with rfl|rfl|rfl
 all_goals exact⟨⟨by decide,Kr,by decide⟩,by decide⟩
theorem Zgm:Gw Kq:=by
 refine⟨by decide,λu hu=>?_,by decide,λu hu=>?_,by decide,by decide,by decide,by decide⟩
 ·simp only[Kq,List.mem_cons,List.mem_nil_iff,or_false]at hu;rcases hu with rfl|rfl<;>exact⟨by decide,by decide⟩
 ·simp only[Kq,List.mem_cons,List.mem_nil_iff,or_false]at hu;subst hu;decide
theorem Y9(w:World)(hT:U8 w):Calls Tryz.prog 11 #[] w λe w'=>e=.returned (.bool true)/\Zg w w':=by
 have H:=Hd hT;clear hT;go_enter Tryz.func11,Tryz.ntmps11
 go_upto_region 2 with (first
  | (go_at_call 34;refine (Zj2 _).mono ?_;rintro e w1 ⟨cs,rfl,h1,hx⟩;have HX:=Hd (Ai1 h1 hx);clear h1 hx)
  | (go_at_call 12;refine (Va Kq cs _ none noX (λ_ e=>by cases e) (sb [97,98,98]) Zmz (by decide) 1 true _ HX.out.1 (H.out.ext HX.out.2) Zgm Fh (M1 _ _ _ _ HX.out.1 (H.out.ext HX.out.2) Zgm Fh rfl)).mono ?_;rw[Zia];rintro e w2 ⟨v,rfl,h1,hx⟩;have HY:=Hd (Ai1 h1 hx);clear h1 hx)
  | fail)
 have hrow:=HY.out.1;obtain⟨g,c,hv,e2,_⟩:=Xq hrow 2 (by decide);subst hv;have get:=λj hj=>(Xq hrow j hj)
 have cell:∀ j,j<14->w2.cell? ⟨g,j,none⟩=(([⟨0,1,1,0,0,2,sb [97,98]⟩,⟨1,0,2,2,2,3,sb [98]⟩]:List Yu).flatMap Ru)[j]?:=λj hj=>by
  obtain⟨g',c',e,ec,_⟩:=get j hj;simp only[Value.slice.injEq,Option.some.injEq,Addr.mk.injEq]at e;rw[<- e.1.1]at ec;exact ec
 have q2:w2.cell? ⟨g,2,none⟩=some (.int .i64 1):=cell 2 Om;have q6:w2.cell? ⟨g,6,none⟩=some (.string (sb [97,98])):=cell 6 Om;have q9:w2.cell? ⟨g,9,none⟩=some (.int .i64 2):=cell 9 Om;have q13:w2.cell? ⟨g,13,none⟩=some (.string (sb [98])):=cell 13 Om;have lg:=lt_of_cell q2;clear e2 get cell hrow;go_wp2_with fail
 first|go_ret|go_ret2
 exact⟨rfl,HX.out.2.then HY.out.2⟩
end
end Go.Proofs.YtoliamijgmifkaaGreatDoor
