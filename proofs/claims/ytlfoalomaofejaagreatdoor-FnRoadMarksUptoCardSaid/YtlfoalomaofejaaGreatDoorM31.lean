/- impl.analyzed. · impl.tokens.  -/
import Derived.Test.YtlfoalomaofejaaGreatDoorM30
import Derived.Recover
set_option linter.all false
set_option maxRecDepth 100000
set_option maxHeartbeats 2000000
namespace Go.Proofs.YtlfoalomaofejaaGreatDoor
section
open Go.RowKit DT SS TR LT
theorem Lw{w:World}(q:U8 w){U:Nat}(h:w.heap.size<=U):Ts U :=
 ⟨Nat.lt_of_lt_of_le (lt_of_cell (q.1 0 Om)) h,Nat.lt_of_lt_of_le (lt_of_cell (q.2 0 Om).1) h⟩
theorem Zho(p q:Addr)(w:World) :
  CallsD Tryz.prog 121 #[.pointer (some p),.pointer (some q)] .returning w λe h w'=>e=.returned (.tuple #[])/\h=.returning/\w'=w:=by
 refine callsD_of_wpS Tryz.func121 rfl λA cs z=>?_
 apply wpS_seq;apply wpS_region;simp[wpOpsS,go_sem,recoverD,z,Tryz.ntmps121,Exit.thenS];refine wpS_cond (t:=false) (by simp[Act.eval,Array.replicate]) ?_;simp only[Bool.false_eq_true,if_false];refine wpS_of_wp (wp_skip ?_);cases A;simp_all [bodyPostS,results,Tryz.results121]
theorem Gu{w q:World}{z:Obj}{u v:Value}{T A:TypeId}(h:Zf (((w.alloc z).alloc (.cells #[u] T)).alloc (.cells #[v] A)) q) :
  q.cell? ⟨w.heap.size+1,0,none⟩=some u/\q.frozen? ⟨w.heap.size+1,0,none⟩=false/\q.cell? ⟨w.heap.size+1+1,0,none⟩=some v/\q.frozen? ⟨w.heap.size+1+1,0,none⟩=false/\w.heap.size+1<q.heap.size/\w.heap.size+1+1<q.heap.size/\Zf w q:=by
 have h1:q.heap[w.heap.size+1]?=some (.cells #[u] T (0,0)):=h.heap (((Fe ((w.alloc z).alloc (.cells #[u] T))).alloc _).heap (alloc_at' _ _ (by rw[Za])) id) id;have h2:q.heap[w.heap.size+1+1]?=some (.cells #[v] A (0,0)):=h.heap (alloc_at' _ _ (by rw[Za,Za])) id;exact⟨Zb h1 0 _ rfl,Zi h1 0,Zb h2 0 _ rfl,Zi h2 0,(Gs1.1 h1).1,(Gs1.1 h2).1,((((Fe w).alloc _).alloc _).alloc _).ext h⟩
abbrev Zcm(h:Option (List ByteArray))(q:Nat):Option (Nat×List ByteArray):=h.map λks=>(q,ks)
abbrev Zgn(h:Option (List ByteArray))(q:Nat):Option Addr:=(Zcm h q).map λx=>⟨x.1,0,none⟩
theorem Zfx(h:Option (List ByteArray))(q:Nat):(Zcm h q).map (·.2)=h:=by cases h<;>rfl
abbrev XU:={ X:Nat->Nat->Nat->World->Prop // ∀ {h H U:Nat} {S:Nat->Prop} {w w':World},X h H U w->Fr S w w'->(∀ b,H<=b->b<U->¬ S b)->X h H U w' }
def noX:XU:=⟨λ_ _ _ _=>True,λh _ _=>h⟩
def Jo(d:Zg)(cs:List Value)(h:Option (List ByteArray))(X:XU)(G:World):Prop :=
 ∀ (z:Bool) (W:World),Zf G W->Calls Tryz.prog 122 #[.agg cs.toArray,.bool z] W λe w'=>∃ q I H U A,e=.returned (.tuple #[.pointer (some ⟨q,0,none⟩),.int .i64 0])/\Zfk d (Zcm h A) z q I H U w'/\X.1 A H U w'/\W.heap.size<=H/\Zf W w'
theorem Hs(d:Zg)(cs:List Value)(O:Nat->Prop)(w:World)(h:tDict.R w O d cs)(J:U8 w)(hd:Hr d)(I:Zl d=true)(G:d.hasUser=false):Jo d cs none noX w:=by
 intro z W f;refine (Af d cs O z W (tDict.ext h f) (J.ext f) hd I G).mono ?_;rintro e w' ⟨q,A,H,U,h1,h2,h3,h4⟩;exact⟨q,A,H,U,0,h1,h2,trivial,h3,h4⟩
def Zk4(d:Zg)(h:Option (List ByteArray))(X:XU)(A:Bool)(q:Int)(s:ByteArray)(w:World)(v:Value)(G H U z:Nat)(w':World):Prop :=
 w'.ownsRow w.heap.size 137 9 v (Ww (Z3 d h) A (Rm q) s).length ((Ww (Z3 d h) A (Rm q) s).flatMap (Yn G (Zgn h z)))/\Zz d G H U w'/\(∀ x,Zcm h z=some x->Ug x.1 x.2 H U w')/\X.1 z H U w'/\w.heap.size<=H/\Zf w w'
theorem Cz(d:Zg)(cs:List Value)(O:Nat->Prop)(z:Option (List ByteArray))(X:XU)(s:ByteArray)(hs:Rd s)(af:s.size<=300)(G:Int)(om:Bool)(w:World)(h:tDict.R w O d cs)(hT:U8 w)(hd:Hr d)(hr:Zl d=true)(ac:Jo d cs z X w) :
  Calls Tryz.prog 69 #[.agg cs.toArray,.string s,.int .i64 G,.bool om] w λe w'=>∃ v kd H U Z,e=.returned (.tuple #[v,.int .i64 0])/\Zk4 d z X om G s w v kd H U Z w':=by
 have mixed:Tryz.prog.follows .mixedOrders=true:=Kr
 have H:=Hd (Ai1 ac hT);have HD:=Hd (Ai1 hd hr);obtain⟨A1,c1,A2,c2,A3,c3,A4,c4,A5,c5,A6,c6,A7,c7,A8,c8,rfl,_⟩:=Y4 h;clear h hT ac hd hr;have al:∀ (fn:Fn) (first cap:Array Value) (w:World),(Instr.makeFunc fn first cap).run Tryz.prog w=.ok (.func fn first cap) w:=λ_ _ _ _=>rfl
 go_enter_defers Tryz.func69,Tryz.ntmps69
 go_upto_region 5 with (first
  | (go_at_call 122;refine (H.out.1 _ _ ((((Fl w).alloc _).alloc _).alloc _)).mono ?_;rintro e A ⟨tk,kd,HH,U,Z,rfl,h1,hX,h2,K⟩;obtain⟨b8,f8,b9,f9,l8,l9,ab⟩:=Gu K;have L:=Hd (Ai1 ab (Ai1 h1 (Ai1 h2 (Ai1 K.size hX))));clear K ab h1 h2 hX)
  | fail)
 have W:Fr (λj=>j=w.heap.size+1+1) A (A.setCell ⟨w.heap.size+1+1,0,none⟩ (.int .i64 0)):=(Fl A).setCell _ _ (λ_=>rfl);have ah:w.heap.size+3<=HH:=by have:=L.out.2.2.1;rw[Za,Za,Za]at this;omega
 have ao:=L.out.2.1.dict.lt;obtain⟨pu,V⟩:∃ pu,pu=((Zcm z Z).map λx=>(⟨x.1,0,none⟩:Addr)):=⟨_,rfl⟩;have Y:A.heap[tk]?=some (.cells (Y9 kd pu om) 291 (0,0)):=by rw[V];exact L.out.2.1.cells
 have M:=W.heap Y (by
  intro e
  have h1:¬ tk=w.heap.size+1+1:=by
   intro q;have h2:A.heap[w.heap.size+1+1]?=some (.cells (Y9 kd pu om) 291 (0,0)):=by rw[<- q];exact Y
   have h3:=Zb h2 0 _ rfl;rw[b9]at h3;cases h3
  exact h1 e)
 have D1:Zz d kd HH U (A.setCell ⟨w.heap.size+1+1,0,none⟩ (.int .i64 0)):=L.out.2.1.dict.keep W (λb hb _ e=>Om);have U1:∀ x,Zcm z Z=some x->Ug x.1 x.2 HH U (A.setCell ⟨w.heap.size+1+1,0,none⟩ (.int .i64 0))/\Y6 x.2:=λx e=>⟨(L.out.2.1.user x e).1.keep W (λb hb _ e=>Om),(L.out.2.1.user x e).2⟩
 have Z1:=X.2 L.out.2.2.2.2 W (λb hb _ e=>Om);have J:=H.out.2;have T1:U8 (A.setCell ⟨w.heap.size+1+1,0,none⟩ (.int .i64 0)):=(J.ext L.out.1).fr W (λe=>by have:=(Lw J (Nl _)).1;omega) (λe=>by have:=(Lw J (Nl _)).2;omega);have I:(A.setCell ⟨w.heap.size+1+1,0,none⟩ (.int .i64 0)).heap.size=A.heap.size:=by simp[World.setCell]
 have hG:Ts U:=by have:=Lw J (Nl _);exact⟨by have:=this.1;omega,by have:=this.2;omega⟩
 have c8:=W.cell b8 ((Om:¬ w.heap.size+1=w.heap.size+1+1));have f8:=(W.frozen b8 ((Om:¬ w.heap.size+1=w.heap.size+1+1))).trans f8;have c9:(A.setCell ⟨w.heap.size+1+1,0,none⟩ (.int .i64 0)).cell? ⟨w.heap.size+1+1,0,none⟩=some (.int .i64 0):=World.cell?_setCell_same' _ _ _ (by rw[b9];rfl);have f9:(A.setCell ⟨w.heap.size+1+1,0,none⟩ (.int .i64 0)).frozen? ⟨w.heap.size+1+1,0,none⟩=false:=by rw[World.frozen?_setCell];exact f9
 have X1:Zf w (A.setCell ⟨w.heap.size+1+1,0,none⟩ (.int .i64 0)):=L.out.1.trans W (λj hj e=>Om);have CA:=Zmz d HD.out.2 HD.out.1 (Zcm z Z) kd HH U s hs af om G hG _ D1 U1 T1;rw[<- V,Zfx]at CA;obtain⟨TL,aa⟩:∃ TL,TL=Ww (Z3 d z) om (Rm G) s:=⟨_,rfl⟩;rw[<- aa]at CA;replace CA:=Hd CA;have ad:=Hd (Ai1 V aa);have t0:=Zb M 0 _ rfl;have t1:=Zb M 1 _ rfl;have t2:=Zb M 2 _ rfl;have ae:=lt_of_cell t0;have HW:=Hd (Ai1 X1 (Ai1 D1 (Ai1 U1 (Ai1 ah Z1))));clear W M Y V aa D1 U1 T1 J b8 b9 X1 hG Z1;generalize A.setCell ⟨w.heap.size+1+1,0,none⟩ (.int .i64 0)=w2 at I c8 f8 c9 f9 t0 t1 t2 ae CA HW⊢;have ai:=Hd I;clear I
 go_wp2_with (first
  | (go_at_call 123;refine CA.out.mono ?_;rintro e w3 ⟨v,rfl,h1,K⟩;obtain⟨Av,cv,hv⟩:=Zm h1;subst hv;have d8:=K.cell c8 id;have g8:=(K.frozen c8 id).trans f8;have d9:=K.cell c9 id;have g9:=(K.frozen c9 id).trans f9;have l8:=lt_of_cell d8;have l9:=lt_of_cell d9;have H3:=Hd (Ai1 h1 K);clear h1 K)
  | fail)
 refine leaves_cons (f:=121) (args:=#[.pointer (some ⟨w.heap.size+1,0,none⟩),.pointer (some ⟨w.heap.size+1+1,0,none⟩)]) (by simp) (by simp[go_sem]) ?_;refine (Zho _ _ _).mono ?_;rintro e u' w8 ⟨rfl,rfl,rfl⟩;simp[Leaves,settle,results,Tryz.results69,go_sem,d8,d9,g8,g9]
 have F:Fr (λj=>j=w.heap.size+1\/j=w.heap.size+1+1) w3 ((w3.setCell ⟨w.heap.size+1,0,none⟩ (.slice Av TL.length cv)).setCell ⟨w.heap.size+1+1,0,none⟩ (.int .i64 0)) :=
  ((Fr.refl (λj=>j=w.heap.size+1\/j=w.heap.size+1+1) w3).setCell ⟨w.heap.size+1,0,none⟩ _ (λ_=>.inl rfl)).setCell ⟨w.heap.size+1+1,0,none⟩ _ (λ_=>.inr rfl)
 have aj:=L.out.1.size;have ak:=ai.out;have am:=HW.out.2.2.2.1;have hk:∀ b,HH<=b->b<U->¬ (b=w.heap.size+1\/b=w.heap.size+1+1):=λb hb _=>by omega
 have ag:=ad.out.2;refine⟨kd,HH,U,Z,?_,(HW.out.2.1.keep H3.out.2 (λ_ _ _=>id)).keep F hk,λx e=>((HW.out.2.2.1 x e).1.keep H3.out.2 (λ_ _ _=>id)).keep F hk,X.2 (X.2 HW.out.2.2.2.2 H3.out.2 (λ_ _ _=>id)) F hk,Om,(HW.out.1.ext H3.out.2).trans F (λj hj e=>Om)⟩;rw[<- ag,show Zgn z Z=pu from ad.out.1.symm];refine T0 (Zr H3.out.1 F (λj e=>?_)) Om;have:=(H3.out.1.lt j e).1;rintro (q|q)<;>omega
end
section
open Go.RowKit DT SS TR LT
theorem flat_get{α:Type}(f:α->List Value)(k:Nat)(h:∀ x,(f x).length=k):∀ (l:List α) (i j:Nat) (hi:i<l.length),j<k->(l.flatMap f)[i*k+j]?=(f l[i])[j]?
 | x::l,0,j,_,hj=>by
  rw[List.flatMap_cons,Nat.zero_mul,Nat.zero_add,List.getElem?_append_left (by rw[h];exact hj)];rfl
 | x::l,i+1,j,hi,hj=>by
  rw[List.flatMap_cons,List.getElem?_append_right (by rw[h,Nat.add_mul];omega),h,show (i+1)*k+j-k=i*k+j by rw[Nat.add_mul];omega];exact flat_get f k h l i j (by simpa using hi) hj
end
section
open Go.RowKit DT SS TR LT
theorem Nu{d:Zg}(U:Zl d=true)(hd:Hr d)(q:Option (List ByteArray))(L:∀ ks,q=some ks->Y6 ks){s:ByteArray}(M:Rd s)(I:s.size<=300)(K:Bool)(h:Int):(Ww (Z3 d q) K h s).length<=1000000000:=by
 refine Nt (L7 _ _ _) ?_;have G:=Ml U hd q L M I;have J:=Vt (List.mem_of_getElem? (Dj (Z3 d q) s));have z:=Ms (Z3 d q) h _ G.2 (Lib.runeCount s+2);have h2:=Ju (ns:=lat (Z3 d q) s) (prev:=(Vy (Z3 d q) h (lat (Z3 d q) s) (Lib.runeCount s+2)).prev) (Lib.runeCount s+2) 1 (by rw[J.2];omega)
 have h3:(Lp (Z3 d q) h s).length<=(Lib.runeCount s+2)*1000:=by
  refine Nt (Qk _ 1000 _ (λm V=>O8 h _ ?_)) (Nat.mul_le_mul_right _ h2);have A:=P3 z _ _ J.1 m V;have e:(lat (Z3 d q) s).getD m default=(lat (Z3 d q) s)[m]:=by rw[List.getD_eq_getElem?_getD,Ge A];rfl
  rw[e];exact (G.1 _ (List.getElem_mem A)).size
 have:=Lib.runeCount_le s;omega
end
section
open Go.RowKit DT SS TR LT
section
variable{w:World}{O:Nat->Prop}
theorem Zob{α:Type}(d:Ty α){b:Nat}{cs:List Value}{x:α}{rest:Array Value}{T:TypeId}(q:w.heap[b]?=some (.cells rest T (0,0)))(G:O b)(z:d.R w O x cs)(A:∀ j (h:j<cs.length),rest[j]?=some cs[j]):d.At w O (some ⟨b,0,none⟩) [x]:=by
 refine⟨by simp,.inr ⟨b,0,rfl,G,(Gs1.1 q).1,λi hi=>?_⟩⟩;obtain rfl:i=0:=by simp at hi;omega
 exact⟨cs,z,λj h=>by rw[Nat.zero_mul,Nat.zero_add];exact Zb q j _ (A j h)⟩
end
end
section
open Go.RowKit DT SS TR LT
end
end Go.Proofs.YtlfoalomaofejaaGreatDoor
