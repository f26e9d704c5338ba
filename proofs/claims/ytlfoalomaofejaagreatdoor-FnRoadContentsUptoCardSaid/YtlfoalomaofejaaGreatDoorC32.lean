/- impl.analyzed. · impl.tokens.  -/
import Derived.Test.YtlfoalomaofejaaGreatDoorC31
import Derived.Recover
set_option linter.all false
set_option maxRecDepth 100000
set_option maxHeartbeats 2000000
namespace Go.Proofs.YtlfoalomaofejaaGreatDoor
section
open Go.RowKit DT SS TR LT
theorem Lg{w:World}(hT:U8 w){U:Nat}(h:w.heap.size<=U):Tn U :=
 ⟨Nat.lt_of_lt_of_le (lt_of_cell (hT.1 0 Om)) h,Nat.lt_of_lt_of_le (lt_of_cell (hT.2 0 Om).1) h⟩
theorem Zgm(p q:Addr)(w:World) :
  CallsD Tryz.prog 121 #[.pointer (some p),.pointer (some q)] .returning w λe u' w'=>e=.returned (.tuple #[])/\u'=.returning/\w'=w:=by
 refine callsD_of_wpS Tryz.func121 rfl λc₀ cs hu=>?_
 apply wpS_seq;apply wpS_region;simp[wpOpsS,go_sem,recoverD,hu,Tryz.ntmps121,Exit.thenS];refine wpS_cond (t:=false) (by simp[Act.eval,Array.replicate]) ?_;simp only[Bool.false_eq_true,if_false];refine wpS_of_wp (wp_skip ?_);cases c₀;simp_all [bodyPostS,results,Tryz.results121]
theorem Ht{w w1:World}{o1:Obj}{u v:Value}{T T':TypeId}(h:Zf (((w.alloc o1).alloc (.cells #[u] T)).alloc (.cells #[v] T')) w1) :
  w1.cell? ⟨w.heap.size+1,0,none⟩=some u/\w1.frozen? ⟨w.heap.size+1,0,none⟩=false/\w1.cell? ⟨w.heap.size+1+1,0,none⟩=some v/\w1.frozen? ⟨w.heap.size+1+1,0,none⟩=false/\w.heap.size+1<w1.heap.size/\w.heap.size+1+1<w1.heap.size/\Zf w w1:=by
 have h1:w1.heap[w.heap.size+1]?=some (.cells #[u] T (0,0)):=h.heap (((Fe ((w.alloc o1).alloc (.cells #[u] T))).alloc _).heap (alloc_at' _ _ (by rw[Za])) id) id;have h2:w1.heap[w.heap.size+1+1]?=some (.cells #[v] T' (0,0)):=h.heap (alloc_at' _ _ (by rw[Za,Za])) id;exact⟨Zb h1 0 _ rfl,Zi h1 0,Zb h2 0 _ rfl,Zi h2 0,(Gs1.1 h1).1,(Gs1.1 h2).1,((((Fe w).alloc _).alloc _).alloc _).ext h⟩
abbrev Zbx(uks:Option (List ByteArray))(ku:Nat):Option (Nat×List ByteArray):=uks.map λks=>(ku,ks)
abbrev Zfk(uks:Option (List ByteArray))(ku:Nat):Option Addr:=(Zbx uks ku).map λx=>⟨x.1,0,none⟩
theorem Zew(uks:Option (List ByteArray))(ku:Nat):(Zbx uks ku).map (·.2)=uks:=by cases uks<;>rfl
abbrev XU:={ X:Nat->Nat->Nat->World->Prop // ∀ {ku H U:Nat} {S:Nat->Prop} {w w':World},X ku H U w->Fr S w w'->(∀ b,H<=b->b<U->¬ S b)->X ku H U w' }
def noX:XU:=⟨λ_ _ _ _=>True,λh _ _=>h⟩
def Kv(d:Zg)(cs:List Value)(uks:Option (List ByteArray))(X:XU)(w0:World):Prop :=
 ∀ (om:Bool) (W:World),Zf w0 W->Calls Tryz.prog 122 #[.agg cs.toArray,.bool om] W λe w'=>∃ tk kd H U ku,e=.returned (.tuple #[.pointer (some ⟨tk,0,none⟩),.int .i64 0])/\Zej d (Zbx uks ku) om tk kd H U w'/\X.1 ku H U w'/\W.heap.size<=H/\Zf W w'
theorem I5(d:Zg)(cs:List Value)(O:Nat->Prop)(w:World)(h:tDict.R w O d cs)(hT:U8 w)(hd:I4 d)(hr:Zm d=true)(hu:d.hasUser=false):Kv d cs none noX w:=by
 intro om W f;refine (Bd d cs O om W (tDict.ext h f) (hT.ext f) hd hr hu).mono ?_;rintro e w' ⟨tk,kd,H,U,h1,h2,h3,h4⟩;exact⟨tk,kd,H,U,0,h1,h2,trivial,h3,h4⟩
def Zjz(d:Zg)(uks:Option (List ByteArray))(X:XU)(om:Bool)(mode:Int)(s:ByteArray)(w:World)(v:Value)(kd H U ku:Nat)(w':World):Prop :=
 w'.ownsRow w.heap.size 137 9 v (Vn (Z2 d uks) om (Oy mode) s).length ((Vn (Z2 d uks) om (Oy mode) s).flatMap (Yh kd (Zfk uks ku)))/\Zx d kd H U w'/\(∀ x,Zbx uks ku=some x->V7 x.1 x.2 H U w')/\X.1 ku H U w'/\w.heap.size<=H/\Zf w w'
theorem Dx(d:Zg)(cs:List Value)(O:Nat->Prop)(uks:Option (List ByteArray))(X:XU)(s:ByteArray)(hs:Rd s)(hsz:s.size<=300)(mode:Int)(om:Bool)(w:World)(h:tDict.R w O d cs)(hT:U8 w)(hd:I4 d)(hr:Zm d=true)(hTO:Kv d cs uks X w) :
  Calls Tryz.prog 69 #[.agg cs.toArray,.string s,.int .i64 mode,.bool om] w λe w'=>∃ v kd H U ku,e=.returned (.tuple #[v,.int .i64 0])/\Zjz d uks X om mode s w v kd H U ku w':=by
 have mixed:Tryz.prog.follows .mixedOrders=true:=Kr
 have H:=Hd (Ai1 hTO hT);have HD:=Hd (Ai1 hd hr);obtain⟨A1,c1,A2,c2,A3,c3,A4,c4,A5,c5,A6,c6,A7,c7,A8,c8,rfl,_⟩:=Yy h;clear h hT hTO hd hr;have hmf:∀ (fn:Fn) (first cap:Array Value) (w:World),(Instr.makeFunc fn first cap).run Tryz.prog w=.ok (.func fn first cap) w:=λ_ _ _ _=>rfl
 go_enter_defers Tryz.func69,Tryz.ntmps69
 go_upto_region 5 with (first
  | (go_at_call 122;refine (H.out.1 _ _ ((((Fl w).alloc _).alloc _).alloc _)).mono ?_;rintro e w1 ⟨tk,kd,HH,U,ku,rfl,h1,hX,h2,hx⟩;obtain⟨b8,f8,b9,f9,l8,l9,hx9⟩:=Ht hx;have HX:=Hd (Ai1 hx9 (Ai1 h1 (Ai1 h2 (Ai1 hx.size hX))));clear hx hx9 h1 h2 hX)
  | fail)
 have F1:Fr (λj=>j=w.heap.size+1+1) w1 (w1.setCell ⟨w.heap.size+1+1,0,none⟩ (.int .i64 0)):=(Fl w1).setCell _ _ (λ_=>rfl);have hHH:w.heap.size+3<=HH:=by have:=HX.out.2.2.1;rw[Za,Za,Za]at this;omega
 have hUw:=HX.out.2.1.dict.lt;obtain⟨pu,hpu⟩:∃ pu,pu=((Zbx uks ku).map λx=>(⟨x.1,0,none⟩:Addr)):=⟨_,rfl⟩;have tc1:w1.heap[tk]?=some (.cells (Y3 kd pu om) 291 (0,0)):=by rw[hpu];exact HX.out.2.1.cells
 have tc0:=F1.heap tc1 (by
  intro e
  have h1:¬ tk=w.heap.size+1+1:=by
   intro q;have h2:w1.heap[w.heap.size+1+1]?=some (.cells (Y3 kd pu om) 291 (0,0)):=by rw[<- q];exact tc1
   have h3:=Zb h2 0 _ rfl;rw[b9]at h3;cases h3
  exact h1 e)
 have D1:Zx d kd HH U (w1.setCell ⟨w.heap.size+1+1,0,none⟩ (.int .i64 0)):=HX.out.2.1.dict.keep F1 (λb hb _ e=>Om);have U1:∀ x,Zbx uks ku=some x->V7 x.1 x.2 HH U (w1.setCell ⟨w.heap.size+1+1,0,none⟩ (.int .i64 0))/\Yz x.2:=λx e=>⟨(HX.out.2.1.user x e).1.keep F1 (λb hb _ e=>Om),(HX.out.2.1.user x e).2⟩
 have Z1:=X.2 HX.out.2.2.2.2 F1 (λb hb _ e=>Om);have hT0:=H.out.2;have T1:U8 (w1.setCell ⟨w.heap.size+1+1,0,none⟩ (.int .i64 0)):=(hT0.ext HX.out.1).fr F1 (λe=>by have:=(Lg hT0 (Nl _)).1;omega) (λe=>by have:=(Lg hT0 (Nl _)).2;omega);have hsz1:(w1.setCell ⟨w.heap.size+1+1,0,none⟩ (.int .i64 0)).heap.size=w1.heap.size:=by simp[World.setCell]
 have hG:Tn U:=by have:=Lg hT0 (Nl _);exact⟨by have:=this.1;omega,by have:=this.2;omega⟩
 have c8:=F1.cell b8 ((Om:¬ w.heap.size+1=w.heap.size+1+1));have f8:=(F1.frozen b8 ((Om:¬ w.heap.size+1=w.heap.size+1+1))).trans f8;have c9:(w1.setCell ⟨w.heap.size+1+1,0,none⟩ (.int .i64 0)).cell? ⟨w.heap.size+1+1,0,none⟩=some (.int .i64 0):=World.cell?_setCell_same' _ _ _ (by rw[b9];rfl);have f9:(w1.setCell ⟨w.heap.size+1+1,0,none⟩ (.int .i64 0)).frozen? ⟨w.heap.size+1+1,0,none⟩=false:=by rw[World.frozen?_setCell];exact f9
 have X1:Zf w (w1.setCell ⟨w.heap.size+1+1,0,none⟩ (.int .i64 0)):=HX.out.1.trans F1 (λj hj e=>Om);have CA:=Zlz d HD.out.2 HD.out.1 (Zbx uks ku) kd HH U s hs hsz om mode hG _ D1 U1 T1;rw[<- hpu,Zew]at CA;obtain⟨TL,hTL⟩:∃ TL,TL=Vn (Z2 d uks) om (Oy mode) s:=⟨_,rfl⟩;rw[<- hTL]at CA;replace CA:=Hd CA;have HPU:=Hd (Ai1 hpu hTL);have t0:=Zb tc0 0 _ rfl;have t1:=Zb tc0 1 _ rfl;have t2:=Zb tc0 2 _ rfl;have lt0:=lt_of_cell t0;have HW:=Hd (Ai1 X1 (Ai1 D1 (Ai1 U1 (Ai1 hHH Z1))));clear F1 tc0 tc1 hpu hTL D1 U1 T1 hT0 b8 b9 X1 hG Z1;generalize w1.setCell ⟨w.heap.size+1+1,0,none⟩ (.int .i64 0)=w2 at hsz1 c8 f8 c9 f9 t0 t1 t2 lt0 CA HW⊢;have HSZ:=Hd hsz1;clear hsz1
 go_wp2_with (first
  | (go_at_call 123;refine CA.out.mono ?_;rintro e w3 ⟨v,rfl,h1,hx⟩;obtain⟨Av,cv,hv⟩:=Zl h1;subst hv;have d8:=hx.cell c8 id;have g8:=(hx.frozen c8 id).trans f8;have d9:=hx.cell c9 id;have g9:=(hx.frozen c9 id).trans f9;have l8:=lt_of_cell d8;have l9:=lt_of_cell d9;have H3:=Hd (Ai1 h1 hx);clear h1 hx)
  | fail)
 refine leaves_cons (f:=121) (args:=#[.pointer (some ⟨w.heap.size+1,0,none⟩),.pointer (some ⟨w.heap.size+1+1,0,none⟩)]) (by simp) (by simp[go_sem]) ?_;refine (Zgm _ _ _).mono ?_;rintro e u' w8 ⟨rfl,rfl,rfl⟩;simp[Leaves,settle,results,Tryz.results69,go_sem,d8,d9,g8,g9]
 have F:Fr (λj=>j=w.heap.size+1\/j=w.heap.size+1+1) w3 ((w3.setCell ⟨w.heap.size+1,0,none⟩ (.slice Av TL.length cv)).setCell ⟨w.heap.size+1+1,0,none⟩ (.int .i64 0)) :=
  ((Fr.refl (λj=>j=w.heap.size+1\/j=w.heap.size+1+1) w3).setCell ⟨w.heap.size+1,0,none⟩ _ (λ_=>.inl rfl)).setCell ⟨w.heap.size+1+1,0,none⟩ _ (λ_=>.inr rfl)
 have hw1:=HX.out.1.size;have hs2:=HSZ.out;have hb3:=HW.out.2.2.2.1;have hk:∀ b,HH<=b->b<U->¬ (b=w.heap.size+1\/b=w.heap.size+1+1):=λb hb _=>by omega
 have hT3:=HPU.out.2;refine⟨kd,HH,U,ku,?_,(HW.out.2.1.keep H3.out.2 (λ_ _ _=>id)).keep F hk,λx e=>((HW.out.2.2.1 x e).1.keep H3.out.2 (λ_ _ _=>id)).keep F hk,X.2 (X.2 HW.out.2.2.2.2 H3.out.2 (λ_ _ _=>id)) F hk,Om,(HW.out.1.ext H3.out.2).trans F (λj hj e=>Om)⟩;rw[<- hT3,show Zfk uks ku=pu from HPU.out.1.symm];refine Sn (Zs H3.out.1 F (λj e=>?_)) Om;have:=(H3.out.1.lt j e).1;rintro (q|q)<;>omega
end
section
open Go.RowKit DT SS TR LT
theorem flat_get{α:Type}(f:α->List Value)(k:Nat)(hk:∀ x,(f x).length=k):∀ (l:List α) (i j:Nat) (hi:i<l.length),j<k->(l.flatMap f)[i*k+j]?=(f l[i])[j]?
 | x::l,0,j,_,hj=>by
  rw[List.flatMap_cons,Nat.zero_mul,Nat.zero_add,List.getElem?_append_left (by rw[hk];exact hj)];rfl
 | x::l,i+1,j,hi,hj=>by
  rw[List.flatMap_cons,List.getElem?_append_right (by rw[hk,Nat.add_mul];omega),hk,show (i+1)*k+j-k=i*k+j by rw[Nat.add_mul];omega];exact flat_get f k hk l i j (by simpa using hi) hj
end
section
open Go.RowKit DT SS TR LT
theorem Jh{d:Zg}(hr:Zm d=true)(hd:I4 d)(uk:Option (List ByteArray))(hu:∀ ks,uk=some ks->Yz ks){s:ByteArray}(hs:Rd s)(hsz:s.size<=300)(om:Bool)(mode:Int):(Vn (Z2 d uk) om mode s).length<=1000000000:=by
 refine Nt (Lq _ _ _) ?_;have hlo:=Nz hr hd uk hu hs hsz;have t1:=Vo (List.mem_of_getElem? (Eq (Z2 d uk) s));have hdesc:=Ma (Z2 d uk) mode _ hlo.2 (Lib.runeCount s+2);have h2:=Ja (ns:=lat (Z2 d uk) s) (prev:=(Vs (Z2 d uk) mode (lat (Z2 d uk) s) (Lib.runeCount s+2)).prev) (Lib.runeCount s+2) 1 (by rw[t1.2];omega)
 have h3:(M8 (Z2 d uk) mode s).length<=(Lib.runeCount s+2)*1000:=by
  refine Nt (Qh _ 1000 _ (λm hm=>Ox mode _ ?_)) (Nat.mul_le_mul_right _ h2);have hml:=Ps hdesc _ _ t1.1 m hm;have e:(lat (Z2 d uk) s).getD m default=(lat (Z2 d uk) s)[m]:=by rw[List.getD_eq_getElem?_getD,Ge hml];rfl
  rw[e];exact (hlo.1 _ (List.getElem_mem hml)).size
 have:=Lib.runeCount_le s;omega
end
section
open Go.RowKit DT SS TR LT
section
variable{w:World}{O:Nat->Prop}
theorem Zg6{x:GWord}{p q:Value}(h1:strs.R w O x.pos [p])(h2:strs.R w O x.contents [q])(h3:x.surface.size<=9223372036854775807)(h4:-9223372036854775808<=x.left/\x.left<=9223372036854775807)(h5:-9223372036854775808<=x.right/\x.right<=9223372036854775807)(h6:-9223372036854775808<=x.weight/\x.weight<=9223372036854775807) :
  tWord.R w O x [.string x.surface,.int .i64 x.left,.int .i64 x.right,.int .i64 x.weight,p,q] :=
 ⟨[_],_,rfl,⟨rfl,h3⟩,[_],_,rfl,⟨rfl,h4⟩,[_],_,rfl,⟨rfl,h5⟩,[_],_,rfl,⟨rfl,h6⟩,[_],[_],rfl,h1,h2⟩
end
end
section
open Go.RowKit DT SS TR LT
end
end Go.Proofs.YtlfoalomaofejaaGreatDoor
