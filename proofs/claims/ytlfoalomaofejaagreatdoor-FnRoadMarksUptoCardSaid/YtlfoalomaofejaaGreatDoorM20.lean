/- impl.unknowns. -/
import Derived.Test.YtlfoalomaofejaaGreatDoorM9
import Derived.Test.YtlfoalomaofejaaGreatDoorM19
set_option linter.all false
set_option maxRecDepth 100000
set_option maxHeartbeats 4000000
namespace Go.Proofs.YtlfoalomaofejaaGreatDoor
open Go.RowKit DT SS
theorem Qq{w:World}{O:Nat->Prop}{xs:List ByteArray}{q:Value}(h:strs.R w O xs [q])(U:xs.length<=2147483647) :
  Calls Tryz.prog 101 #[q] w λe w'=>∃ v,e=.returned v/\strs.R w' (λj=>w.heap.size<=j) xs [v]/\Zf w w':=by
 obtain⟨A,c,e,X,hA,I⟩:=h;cases e
 have z:∀ a,A=some a->∀ j u,(xs.map Value.string)[j]?=some u->w.cell? (a.add j)=some u:=by
  intro a V j u G;have K:j<xs.length:=by simpa using (Gl.1 G).1
  obtain⟨b,o,e,_,_,W,_⟩:=Uk I j K;rw[V]at e;injection e with e
  subst e;rw[Addr.add_lit,W];rw[List.getElem?_map,Ge K]at G;exact G
 have J:∀ x∈xs,x.size<=9223372036854775807:=by
  intro x L;obtain⟨i,hi,rfl⟩:=List.getElem_of_mem L;obtain⟨_,_,_,_,_,_,M⟩:=Uk I i hi;exact M
 refine (Zhj A xs.length c (xs.map Value.string) w (by simp) (λe=>⟨by have:=hA e;omega,hA e⟩) z (by intro u G;obtain⟨x,_,rfl⟩:=List.mem_map.1 G;rfl) U).mono ?_;rintro e w' ⟨v,rfl,h1,h2,_⟩;exact⟨v,rfl,Wx h1 J,h2⟩
def numOf:Option Value->Int
 | some (.int _ n)=>n
 | _=>0
def Xe(st:List (Int×Value)×List (Int×Value))(i:Nat)(u:GUnk):List (Int×Value)×List (Int×Value) :=
 match look st.1 u.cls with
 | some _=>(st.1,put st.2 u.cls (.int .i32 (numOf (look st.2 u.cls)+1)))
 | none=>(put st.1 u.cls (.int .i32 i),st.2)
def Zs(us:List GUnk):Nat->List (Int×Value)×List (Int×Value)
 | 0=>([],[])
 | k+1=>Xe (Zs us k) k (us.getD k default)
def V1(us:List GUnk):=Zs us us.length
def Lq(l r w:Int):List Value:=[.int .i16 l,.int .i16 r,.int .i16 w]
def Jz(us:List GUnk):List Value:=us.flatMap λu=>Lq u.left u.right u.weight
def Zj(ms:List DT.GMark):List Yy:=ms.map λm=>(m.name,m.place)
def Ze(d:Zg):List GUnk:=Z6 Ok d.unknown
def Zkv(us:List GUnk):Prop:=us.length<=100000/\∀ u∈us,(0<=u.cls/\u.cls<=1000)/\(-32768<=u.left/\u.left<=32767)/\(-32768<=u.right/\u.right<=32767)/\(-32768<=u.weight/\u.weight<=32767)/\u.contents.length<=2147483647
def Zn(us:List GUnk)(G k J I z A q:Nat)(ms:List DT.GMark)(h v4:Value):List Q2 :=
 [Tp I #[h,.map (some z),.map (some A),.map (some q),v4] 105,Yq 178 3 h k (Jz (us.take k)),Ls Tm z (Zs us G).1,Ls Tm A (Zs us G).2,Ls Yi q (Xj (Zj ms)),rowD strs 34 v4 ((us.take J).map GUnk.contents)]
abbrev Nr(us:List GUnk)(k G z A q:Nat)(ms:List DT.GMark)(h v4:Value):List Q2:=Zn us k k k G z A q ms h v4
theorem Znz{w:World}{O:Nat->Prop}{A:Option Addr}{us:List GUnk}(h:tUnk.At w O A us)(z:∀ u∈us,0<=u.cls/\u.cls<=1000):∃ G:List U3,G.map Subtype.val=us/\tUnkB.At w O A G:=by
 refine⟨us.attach.map λu=>⟨u.1,z u.1 u.2⟩,by simp[List.map_map,Function.comp_def],?_⟩;obtain⟨hl,h⟩:=h;refine⟨by simpa using hl,?_⟩;rcases h with rfl|⟨b,o,e,z,q,I⟩
 ·exact .inl rfl
 ·refine .inr ⟨b,o,e,z,q,λi hi=>?_⟩;obtain⟨cs,h1,h2⟩:=I i (by simpa using hi);refine⟨cs,?_,h2⟩;show tUnk.R w O _ cs;simpa using h1
theorem Zct(h:List U3):(Z6 T7 h).map Subtype.val=Z6 Ok (h.map Subtype.val):=Li Ok Subtype.val h
theorem Yr.base{H z:Nat}{l:List Q2}{w:World}(h:Yr H l w)(A:z<=H):Yr z l w:=by
 obtain⟨G,h1,h2,h3⟩:=h;exact⟨G,h1,h2,λi hi b q=>⟨Nt A (h3 i hi b q).1,(h3 i hi b q).2⟩⟩
theorem Zkf(us:List GUnk):∀ (k:Nat) (c:Int),∃ n:Nat,(look (Zs us k).2 c).getD (.int .i32 0)=.int .i32 (n:Int)/\numOf (look (Zs us k).2 c)=(n:Int)/\n<=k
 | 0,c=>⟨0,rfl,rfl,Nl _⟩
 | k+1,c=>by
  obtain⟨n,h1,h2,h3⟩:=Zkf us k c;show ∃ n:Nat,(look (Xe (Zs us k) k (us.getD k default)).2 c).getD (.int .i32 0)=.int .i32 (n:Int)/\numOf (look (Xe (Zs us k) k (us.getD k default)).2 c)=(n:Int)/\n<=k+1;unfold Xe
  split
  ·simp only[Wn]
   split
   next e =>
    subst e;rw[h2];exact⟨n+1,by simp,by simp[numOf],Om⟩
   next=>exact⟨n,h1,h2,Om⟩
  ·exact⟨n,h1,h2,Om⟩
theorem Ox(x:Int):IntKind.i16.wrap x=(x+32768) % 65536-32768:=by
 simp[IntKind.wrap,IntKind.bits,IntKind.signed]
 split<;>omega
theorem Fp:(Tryz.prog.info? 34).map (λi=>(i.zero,i.size,i.bytes))=some (some (.slice none 0 0),1,24):=Kr
theorem Fq:(Tryz.prog.info? 178).map (λi=>(i.zero,i.size,i.bytes))=some (some (.agg #[.int .i16 0,.int .i16 0,.int .i16 0]),3,6):=Kr
theorem Kc(w:World)(x y z:Value){T:TypeId}:∀ j u,[x,y,z][j]?=some u->(w.alloc (.cells #[x,y,z] T)).cell? ((⟨w.heap.size,0,none⟩:Addr).add j)=some u:=by
 intro j u h;rw[Addr.add_lit,Nat.zero_add];exact Yf w #[x,y,z] T j u (by rw[<- h];simp)
theorem Zj4{w:World}{N:Nat}{a0 V a2 a3 a4:Value}{T:TypeId}(I G A z q:Value)(h:w.heap[N]?=some (.cells #[a0,V,a2,a3,a4] T (0,0))) :
  ((((((w.setCell ⟨N,0,none⟩ I).setCell ⟨N,1,none⟩ G).setCell ⟨N,2,none⟩ A).setCell ⟨N,3,none⟩ z).setCell ⟨N,4,none⟩ q)).heap[N]?=some (.cells #[I,G,A,z,q] T (0,0)) /\
  Fr (λj=>j=N) w ((((((w.setCell ⟨N,0,none⟩ I).setCell ⟨N,1,none⟩ G).setCell ⟨N,2,none⟩ A).setCell ⟨N,3,none⟩ z).setCell ⟨N,4,none⟩ q)):=by
 refine⟨?_,(((((Fr.refl (λj=>j=N) w).setCell ⟨N,0,none⟩ I (λ_=>rfl)).setCell ⟨N,1,none⟩ G (λ_=>rfl)).setCell ⟨N,2,none⟩ A (λ_=>rfl)).setCell ⟨N,3,none⟩ z (λ_=>rfl)).setCell ⟨N,4,none⟩ q (λ_=>rfl)⟩;have U:=Yt h 0 I;have M:=Yt U 1 G;have L:=Yt M 2 A;have K:=Yt L 3 z;have J:=Yt K 4 q;rw[J];rfl
theorem Zfv{us:List GUnk}{A q z h H:Nat}{ms:List DT.GMark}{w:World}(G:w.heap[A]?=some (.cells #[.slice none 0 0,.map (some q),.map (some z),.map (some h),.slice none 0 0] 105 (0,0)))(h1:Zq Tm q [] w)(h2:Zq Tm z [] w)(h3:Zq Yi h (Xj (Zj ms)) w)
  (X:H<=q) (W:q<z) (V:z<h) (U:h<A):Yr H (Nr us 0 A q z h ms (.slice none 0 0) (.slice none 0 0)) w:=by
 have L:=(Gs1.1 G).1;refine⟨λi b=>(i=0/\b=A)\/(i=2/\b=q)\/(i=3/\b=z)\/(i=4/\b=h),λi hi=>?_,λi j hi M I b K J=>Om,λi hi b K=>Om⟩
 match i,hi with
 | 0,_=>exact⟨G,.inl ⟨rfl,rfl⟩⟩
 | 1,_=>exact⟨World.ownsRow_nil _ _ _ _,λb e=>by cases e⟩
 | 2,_=>exact⟨h1,.inr (.inl ⟨rfl,rfl⟩)⟩
 | 3,_=>exact⟨h2,.inr (.inr (.inl ⟨rfl,rfl⟩))⟩
 | 4,_=>exact⟨h3,.inr (.inr (.inr ⟨rfl,rfl⟩))⟩
 | 5,_=>exact⟨[],rfl,World.ownsRow_nil _ _ _ _,(λb e=>by cases e),(λi hi=>by simp at hi)⟩
theorem Zbv{τ:Type}{kv:τ->Value}{k B T n:Nat}{v:Value}{z:List (El τ k)}{w:World}(h:w.ownsRow B T (k+1) v n (z.flatMap (El.enc kv)))(i:Nat)(hi:i<z.length) :
  ∃ b L,v=.slice (some ⟨b,0,none⟩) n L/\∀ j u,(z[i].enc kv)[j]?=some u->w.cell? ⟨b,i*(k+1)+j,none⟩=some u:=by
 rcases id h.2 with ⟨rfl,rfl⟩|⟨g,cap,K,rfl,U,M,h2,h3,h4,V⟩
 ·have:=h.1;rw[Ha]at this
  have W:z.length=0:=by
   rcases Nat.eq_zero_or_pos z.length with q|q
   ·exact q
   ·have:=Nat.mul_le_mul_right (k+1) (show 1<=z.length from q);omega
  omega
 ·refine⟨g,cap,rfl,λj u J=>?_⟩;have G:j<k+1:=by rw[<- El.enc_len kv z[i]];exact (Gl.1 J).1
  have A:∀ (l:List (El τ k)) (i j:Nat) (hi:i<l.length) (G:j<k+1),(l.flatMap (El.enc kv))[i*(k+1)+j]?=(l[i].enc kv)[j]?:=by
   intro l
   induction l with
   | nil=>intro i j hi;simp at hi
   | cons x l ih =>
    intro i j hi G;rw[List.flatMap_cons]
    cases i with
    | zero =>
     rw[List.getElem?_append_left (by rw[El.enc_len];omega)];simp
    | succ i =>
     have I:i<l.length:=(by simpa using hi);rw[List.getElem?_append_right (by rw[El.enc_len,Nat.add_mul];omega),El.enc_len,show (i+1)*(k+1)+j-(k+1)=i*(k+1)+j by rw[Nat.add_mul];omega,ih i j I G];simp
  have e:=A z i j hi G;rw[J]at e;have:=h.cells (g:=g) rfl _ _ e;rw[Addr.add_lit,Nat.zero_add]at this;exact this
theorem Eu(d:Zg)(cs:List Value)(O:Nat->Prop)(w:World)(h:tDict.R w O d cs)(hu:Zkv d.unknown)(hm:∀ m∈d.unkMeta,0<=m.place/\m.place<=100)(dq:d.unkMeta.length<=100000) :
  Calls Tryz.prog 47 #[.agg cs.toArray] w λe w'=>∃ L G V mm v1 v4,e=.returned (.agg #[v1,.map (some G),.map (some V),.map (some mm),v4])/\Zf w w'/\Yr w.heap.size (Nr (Ze d) d.unknown.length L G V mm d.unkMeta v1 v4) w':=by
 obtain⟨A1,c1,A2,c2,A3,c3,A4,c4,A5,c5,A6,c6,A7,c7,A8,c8,rfl,h1,h2,h3,h4,h5,h6,h7,h8,hr,hc⟩:=Y4 h;have mixed:Tryz.prog.follows .mixedOrders=true:=Kr
 have X1:Zf w ((w.alloc (.cells #[.slice A1 d.words.length c1,.int .i64 d.rows,.int .i64 d.cols,.slice A2 d.costs.length c2,.slice A3 d.classes.length c3,.slice A4 d.chars.length c4,.slice A5 d.unknown.length c5,.slice A6 d.meta0.length c6,.slice A7 d.unkMeta.length c7,.bool d.hasUser,.slice A8 d.user.length c8] 30)).alloc (.cells #[.slice none 0 0,.map none,.map none,.map none,.slice none 0 0] 105)):=((Fl _).alloc _).alloc _;obtain⟨ys,bn,af⟩:=Znz (Ya h5.2.2 X1) (λu hm=>(hu.2 u hm).1);obtain⟨ds,al,am⟩:=Zkd (kv:=Kl) (k:=4) rfl (λ{w O x cs} hr=>by obtain⟨q,rfl,_⟩:=Si hr;exact⟨_,rfl⟩) af;have bw:ds.length=d.unknown.length:=by rw[Zfe al,<- bn,List.length_map]
 have C1:=Zhi A5 d.unknown.length c5 (ds.flatMap (El.enc Kl)) _ (by rw[Ha,bw]) (λe=>⟨by have:=h5.2.1 e;have:=h5.1;omega,h5.2.1 e⟩) am (by
  intro u hu;obtain⟨x,_,hx⟩:=List.mem_flatMap.1 hu
  exact El.enc_one (λ_=>rfl) x u hx) (by have:=hu.1;omega)
 have HC:=Hd (Ai1 h7 al);clear h h1 h2 h3 h4 h5 h6 h7 h8;go_enter Tryz.func47,Tryz.ntmps47
 go_upto_region 2 with (first|(go_at_call 97;refine C1.mono ?_;rintro e w1 ⟨v,rfl,hv,cf,_⟩;have HV:=Hd hv;have c9:=Hd cf;clear hv cf C1)|fail)
 obtain⟨W1,a6⟩:∃ W1,W1=((w.alloc (.cells #[.slice A1 d.words.length c1,.int .i64 d.rows,.int .i64 d.cols,.slice A2 d.costs.length c2,.slice A3 d.classes.length c3,.slice A4 d.chars.length c4,.slice A5 d.unknown.length c5,.slice A6 d.meta0.length c6,.slice A7 d.unkMeta.length c7,.bool d.hasUser,.slice A8 d.user.length c8] 30)).alloc (.cells #[.slice none 0 0,.map none,.map none,.map none,.slice none 0 0] 105)):=⟨_,rfl⟩
 have ac:W1.cell? ⟨w.heap.size,8,none⟩=some (.slice A7 d.unkMeta.length c7):=by
  rw[a6];exact (((Fe _).alloc _).cell (Yf w _ _ 8 _ rfl) id)
 have M:W1.heap[w.heap.size+1]?=some (.cells #[.slice none 0 0,.map none,.map none,.map none,.slice none 0 0] 105 (0,0)):=by
  rw[a6];exact alloc_at' _ _ (by rw[Za])
 have ao:W1.heap.size=w.heap.size+2:=by rw[a6,Za,Za]
 rw[<- a6]at X1 HV c9 HC;have C2:=Zgb W1.heap.size 36 d.unknown.length v ds w1 HV.out bw (by have:=hu.1;omega) al.tag;have d8:=Hd (Ai1 ac (Ai1 M ao));have d5:=Hd X1;clear ac M ao a6 X1 al af am;go_upto_region 3 with (first|(go_at_call 98;refine C2.mono ?_;rintro e I ⟨rfl,hv,hf⟩;have b1:=Hd hv;have ed:=Hd hf;clear hv hf C2)|fail)
 have az:∀ j,v.ownBlock=some j->W1.heap.size<=j:=λj e=>Yo (g:=j) HV.out e
 obtain⟨ac,M,ao⟩:=d8.out;have FW:Fr (λj=>v.ownBlock=some j) W1 I:=Fr.trans (S:=λj=>v.ownBlock=some j) (c9.out.mono (λ_ _ e=>e.elim)) ed.out (λ_ _ q=>q);have X2:Zf w I:=((d5.out.mono (λ_ _ e=>e.elim)).trans FW (S:=λj=>False) (λj hj e=>by have:=az j e;omega));have ac:I.cell? ⟨w.heap.size,8,none⟩=some (.slice A7 d.unkMeta.length c7):=FW.cell ac (λe=>by have:W1.heap.size<=w.heap.size:=az _ e;omega);have M:I.heap[w.heap.size+1]?=some (.cells #[.slice none 0 0,.map none,.map none,.map none,.slice none 0 0] 105 (0,0)):=FW.heap M (λe=>by have:=az _ e;omega);obtain⟨us,ad⟩:∃ us,us=Ze d:=⟨_,rfl⟩
 have bv:(Z6 (λx y:El U3 4=>T7 x.key y.key) ds).map (λx=>x.key.1)=us:=by
  have e1:=(Ni HC.2 T7).1;rw[ad];show _=Z6 Ok d.unknown;rw[<- bn,<- Zct,<- e1,List.map_map];rfl
 have ag:us.length=d.unknown.length:=by rw[ad];exact (Z0 _ _).length_eq
 have cx:Zkv us:=by
  refine⟨by rw[ag];exact hu.1,λu hm=>hu.2 u ?_⟩;rw[ad]at hm;exact (Z0 _ _).mem_iff.1 hm
 have bi:∀ k (hk:k<us.length),∃ b cp A c,v=.slice (some ⟨b,0,none⟩) us.length cp/\strs.R I O us[k].contents [.slice A us[k].contents.length c]/\I.cell? ⟨b,k*5,none⟩=some (.int .i64 us[k].cls)/\I.cell? ⟨b,k*5+1,none⟩=some (.int .i64 us[k].left)/\I.cell? ⟨b,k*5+2,none⟩=some (.int .i64 us[k].right)/\I.cell? ⟨b,k*5+3,none⟩=some (.int .i64 us[k].weight)/\I.cell? ⟨b,k*5+4,none⟩=some (.slice A us[k].contents.length c):=by
  intro k hk;have ay:k<(Z6 (λx y:El U3 4=>T7 x.key y.key) ds).length:=by rw[<- bv,List.length_map]at hk;exact hk
  obtain⟨b,cp,e,hc⟩:=Zbv b1.out k ay
  have hx:(Z6 (λx y:El U3 4=>T7 x.key y.key) ds)[k].key.1=us[k]:=by
   have:(((Z6 (λx y:El U3 4=>T7 x.key y.key) ds)).map (λx=>x.key.1))[k]?=us[k]?:=(by rw[bv]);rw[List.getElem?_map,Ge ay,Ge hk]at this;exact Option.some.inj this
  have hr:=(Ni HC.2 T7).2 _ (List.getElem_mem ay)
  have dm:tUnk.R I O us[k] ((Z6 (λx y:El U3 4=>T7 x.key y.key) ds)[k].enc Kl):=by
   rw[<- hx];exact tUnk.keep (show tUnk.R W1 O _ _ from hr) FW (λj hj _ e=>by have:=az j e;omega)
  obtain⟨q,e2,hq⟩:=Si dm;obtain⟨A,c,e3,dn⟩:=hq;cases e3;rw[e2]at hc;rw[ag];exact⟨b,cp,A,c,e,⟨A,c,rfl,dn⟩,hc 0 _ rfl,hc 1 _ rfl,hc 2 _ rfl,hc 3 _ rfl,hc 4 _ rfl⟩
 have RU:=Hd bi;have HU:=Hd (Ai1 cx (Ai1 ad ag));rw[<- ag];have ef:us.length<=100000:=by rw[ag];exact hu.1
 rw[<- ag]at b1;have ac:=Hd ac;have M:=Hd M;have cz:=Hd X2;clear bi bv az bn bw ao X2 FW ad ag cx;obtain⟨Av,cv,dl⟩:=Zm b1.out;subst dl;have ei:=@run_makeMap Tryz.prog;have dr:I.cell? ⟨w.heap.size,8,none⟩=some (.slice A7 d.unkMeta.length c7):=ac
 have C3:∀ W:World,Zf I W->Calls Tryz.prog 100 #[.slice A7 d.unkMeta.length c7] W λe w'=>e=.returned (.map (some W.heap.size))/\Zq Yi W.heap.size (Xj (Zj d.unkMeta)) w'/\Zf W w':=by
  intro W hw;have ax:(Zj d.unkMeta).length=d.unkMeta.length:=by simp[Zj]
  have:=Lr (Zj d.unkMeta) A7 c7 W (λj hj=>by
   have dt:j<d.unkMeta.length:=by rw[<- ax];exact hj
   obtain⟨b,o,e,_,_,c0,c1,_⟩:=Rn (Ya HC.1.2.2 (cz.out.then hw)) j dt;have en:(Zj d.unkMeta)[j]=(d.unkMeta[j].name,d.unkMeta[j].place):=(by simp[Zj]);rw[en]
   exact⟨b,o,e,c0,c1⟩) (λm cl=>by
   obtain⟨x,hx,rfl⟩:=List.mem_map.1 cl
   exact hm x hx) (by rw[ax];exact dq)
  rw[ax]at this;exact this
 have C3:Hid _:=C3
 have lw:w.heap.size+1<I.heap.size:=by
  have:=(Gs1.1 M.out).1;omega
 have eg:w.heap.size<I.heap.size:=Om
 go_upto_region 4 with (first|(go_at_call 100;refine (C3.out _ (((Fl I).alloc _).alloc _)).mono ?_;rintro e w3 ⟨rfl,cm,ce⟩;have b4:=Hd cm;have be:=Hd ce;clear cm ce)|fail)
 have ST:=Hd (Zfv (us:=us) (ms:=d.unkMeta) (H:=I.heap.size) (alloc_at w3 (.cells #[.slice none 0 0,.map (some I.heap.size),.map (some (I.heap.size+1)),.map (some (I.heap.size+1+1)),.slice none 0 0] 105)) ((((Zq.made Tm I).alloc (.map #[] 0)).keep be.out id).alloc _) (((show Zq Tm (I.heap.size+1) [] _ by have:=Zq.made Tm (I.alloc (.map #[] 0));rw[Za]at this;exact this).keep be.out id).alloc _) ((show Zq Yi (I.heap.size+1+1) (Xj (Zj d.unkMeta)) w3 by have:=b4.out;rw[Za,Za]at this;exact this).alloc _) (Nl _) Om Om (by
  have:=b4.out.lt;rw[Za,Za]at this
  exact this))
 have X4:Hid (Zf I (w3.alloc (.cells #[.slice none 0 0,.map (some I.heap.size),.map (some (I.heap.size+1)),.map (some (I.heap.size+1+1)),.slice none 0 0] 105))):=((((Fl I).alloc _).alloc _).then be.out).alloc _;obtain⟨G,ap⟩:∃ m,m=I.heap.size:=⟨_,rfl⟩;rw[<- ap]at ST X4⊢;obtain⟨V,aq⟩:∃ m,m=G+1:=⟨_,rfl⟩;rw[<- aq]at ST X4⊢;obtain⟨mm,bf⟩:∃ m,m=V+1:=⟨_,rfl⟩;rw[<- bf]at ST X4⊢;obtain⟨L,cr⟩:∃ m,m=w3.heap.size:=⟨_,rfl⟩;rw[<- cr]at ST⊢;have HH:Hid (I.heap.size=G):=ap.symm;have db:Hid (G<V):=by show G<V;omega
 clear ap aq bf cr b4 dr;generalize w3.alloc _=w4 at ST X4⊢;clear be;go_wp2_with fail
 go_loopg [23] us.length (λg1 vi wr=>∃ (k:Nat) (v1 v4:Value),vi=.int .i64 k/\k<=us.length/\us.length<=k+g1/\Hid (Zf I wr)/\Hid (Yr G (Nr us k L G V mm d.unkMeta v1 v4) wr))
 case atStart=>exact⟨0,_,_,rfl,Om,Om,X4,ST⟩
 case round =>
  clear ST X4;obtain⟨k,v1,v4,rfl,hk,hg,HX,ST⟩:=hrel;have ar:G<=wr.heap.size:=by rw[<- HH.out];exact HX.out.size
  obtain⟨B1,Y,dx⟩:=Zm (ST.out.row 1 ((Om:1<6)) rfl ar).1;obtain⟨_,⟨em,cw,bc,_⟩,_⟩:=ST.out.get 5 ((Om:5<6));obtain⟨B4,X,dw⟩:=Zm bc;have Z:=(ST.out.cell 0 (Nat.zero_lt_succ _) rfl ar).1;subst dx dw;clear bc cw;rw[List.length_map,List.length_take,Nat.min_eq_left hk]at Z ST;by_cases bu:k<us.length
  ·have cn:(k:Int)<us.length:=Om;obtain⟨b,cp,Aq,cq,e,hq,e0,e1,e2,e3,e4⟩:=RU.out k bu;simp only[Value.slice.injEq]at e;obtain⟨rfl,_,rfl⟩:=e;have e0:=HX.out.cell e0 id;have e1:=HX.out.cell e1 id;have e2:=HX.out.cell e2 id;have e3:=HX.out.cell e3 id;have e4:=HX.out.cell e4 id;have cg:=HU.out.1.2 _ (List.getElem_mem bu);generalize hx:us[k]=u at e0 e1 e2 e3 e4 hq cg;obtain⟨⟨q1,q2⟩,⟨q3,q4⟩,⟨q5,q6⟩,⟨q7,q8⟩,q9⟩:=cg;have bz:=Hd hx;have LK:=Hd bu;have HQ:=Hd hq;clear hx hq;go_upto_region 7 with fail
   have m0:=Yf wr #[.int .i64 u.cls,.int .i64 u.left,.int .i64 u.right,.int .i64 u.weight,.slice Aq u.contents.length cq] 36 0 _ rfl;have m1:=Yf wr #[.int .i64 u.cls,.int .i64 u.left,.int .i64 u.right,.int .i64 u.weight,.slice Aq u.contents.length cq] 36 1 _ rfl;have m2:=Yf wr #[.int .i64 u.cls,.int .i64 u.left,.int .i64 u.right,.int .i64 u.weight,.slice Aq u.contents.length cq] 36 2 _ rfl;have m3:=Yf wr #[.int .i64 u.cls,.int .i64 u.left,.int .i64 u.right,.int .i64 u.weight,.slice Aq u.contents.length cq] 36 3 _ rfl;have m4:=Yf wr #[.int .i64 u.cls,.int .i64 u.left,.int .i64 u.right,.int .i64 u.weight,.slice Aq u.contents.length cq] 36 4 _ rfl;have XQ:Zf wr (wr.alloc (.cells #[.int .i64 u.cls,.int .i64 u.left,.int .i64 u.right,.int .i64 u.weight,.slice Aq u.contents.length cq] 36)):=(Fl _).alloc _;have ej:G<=wr.heap.size:=ar;have b8:wr.heap.size<(wr.alloc (.cells #[.int .i64 u.cls,.int .i64 u.left,.int .i64 u.right,.int .i64 u.weight,.slice Aq u.contents.length cq] 36)).heap.size:=by rw[Za];omega
   generalize wr.alloc _=wq at m0 m1 m2 m3 m4 XQ b8⊢;have cy:G<=wq.heap.size:=Om;have d1:L<wr.heap.size:=(Gs1.1 Z).1;have bh:Hid (∀ j,(Value.slice B1 k Y).ownBlock=some j->j<wr.heap.size):=λj e=>((ST.out.row 1 ((Om:1<6)) rfl ar).2.1 j e).2
   have dz:G<wr.heap.size:=(ST.out.map 2 ((Om:2<6)) rfl ar).1.lt;have d0:V<wr.heap.size:=(ST.out.map 3 ((Om:3<6)) rfl ar).1.lt;have SQ:=Hd (ST.out.ext XQ);have d6:=Hd (HX.out.then XQ);have Z:=XQ.heap Z id;have er:Hid (∀ (l:List Q2) (F:Nat->Prop),(∀ b,F b->b<wr.heap.size)->¬ F wr.heap.size):=λl F h q=>by have:=h _ q;omega
   generalize bg:wr.heap.size=bq at m0 m1 m2 m3 m4 b8 dz d0 d1 bh⊢;have es:=Hd bg;clear bg e0 e1 e2 e3 e4 XQ ST HX;have dk:IntKind.i32.wrap u.cls=u.cls:=by rw[IntKind.wrap_i32];omega
   go_cut [7] from 28 to 30 (λv wx=>v=.int .i32 u.cls/\wq=wx)
   case first =>
    go_wp2_with fail
    go_meet
    case rel=>exact⟨rfl,rfl⟩
   obtain⟨rfl,rfl⟩:=hcut;have k1:wq.cell? ⟨L,1,none⟩=some (.map (some G)):=cell_of Z 1 _ rfl;have k2:wq.cell? ⟨L,2,none⟩=some (.map (some V)):=cell_of Z 2 _ rfl;clear dk;go_step;refine wp_seq_k λK hK=>?_
   go_cut [] from 31 to 48 (λwx=>Hid (Fr (λj=>j=G\/j=V) wq wx)/\Hid (Yr G (Zn us (k+1) k k L G V mm d.unkMeta (.slice B1 k Y) (.slice B4 k X)) wx))
   case first =>
    obtain⟨ap,_,bj⟩:=SQ.out.map 2 ((Om:2<6)) rfl cy;obtain⟨aq,_,bk⟩:=SQ.out.map 3 ((Om:3<6)) rfl cy
    have aa:Zs us (k+1)=Xe (Zs us k) k u:=by
     show Xe _ _ (us.getD k default)=_;rw[List.getD_eq_getElem?_getD,Ge LK.out,bz.out];rfl
    have b3:=Hd ap;have dc:=Hd aq;clear ap aq
    cases bd:look (Zs us k).1 u.cls with
    | none =>
     have av:Zs us (k+1)=(put (Zs us k).1 u.cls (.int .i32 k),(Zs us k).2):=by rw[aa];unfold Xe;rw[bd]
     have b2:=Hd av;have d2:=Hd bj;clear av aa bj bk
     go_wp2_with (first
      | (at_lookup;refine Zk rfl _ _ true rfl T9 Tryz.underlying100 Tryz.underlying21 (Rb _) rfl b3.out u.cls rfl ?_;simp only[if_true,bd,Option.getD_none,Option.isSome_none])
      | (at_mapUpdate;refine Yd rfl _ _ _ rfl T9 Tryz.underlying100 Tryz.underlying21 rfl b3.out u.cls (.int .i32 (k:Int)) rfl rfl ?_;intro w5 aw a1 bs;have ai:=Hd (Ai1 aw a1);clear aw a1 bs)
      | fail)
     go_meet
     case rel=>exact⟨ai.out.2.mono (λj _ e=>.inl e),by
      have:=d2.out _ _ ai.out.2 ai.out.1;unfold Zn;rw[b2.out]
      exact this⟩
    | some vi =>
     obtain⟨n,dp,ck,eh⟩:=Zkf us k u.cls;have av:Zs us (k+1)=((Zs us k).1,put (Zs us k).2 u.cls (.int .i32 ((n:Int)+1))):=by rw[aa];unfold Xe;rw[bd];simp only[ck]
     have b2:=Hd av;have d3:=Hd bk;clear av aa bj bk ck
     go_wp2_with (first
      | (at_lookup;refine Zk rfl _ _ true rfl T9 Tryz.underlying100 Tryz.underlying21 (Rb _) rfl b3.out u.cls rfl ?_;simp only[if_true,bd,Option.getD_some,Option.isSome_some])
      | (at_lookup;refine Zk rfl _ _ false rfl T9 Tryz.underlying100 Tryz.underlying21 (Rb _) rfl dc.out u.cls rfl ?_;simp only[Bool.false_eq_true,if_false,dp])
      | (at_mapUpdate;refine Yd rfl _ _ _ rfl T9 Tryz.underlying100 Tryz.underlying21 rfl dc.out u.cls (.int .i32 ((n:Int)+1)) rfl rfl ?_;intro w5 aw a1 bs;have ai:=Hd (Ai1 aw a1);clear aw a1 bs)
      | fail)
     go_meet
     case rel=>exact⟨ai.out.2.mono (λj _ e=>.inr e),by
      have:=d3.out _ _ ai.out.2 ai.out.1;unfold Zn;rw[b2.out]
      exact this⟩
   case rest =>
    obtain⟨aj,S5⟩:=hcut;have bt:¬ (bq=G\/bq=V):=Om;have aq:G<V:=db.out;have m1:=aj.out.cell m1 bt;have m2:=aj.out.cell m2 bt;have m3:=aj.out.cell m3 bt;have dg:=Hd m4;clear m4;have ab:G<=wc.heap.size:=by have:=aj.out.size;omega
    have Z:=(S5.out.cell 0 ((Om:0<6)) rfl ab).1;have k0:wc.cell? ⟨L,0,none⟩=some (.slice B1 k Y):=cell_of Z 0 _ rfl;have b7:L<wc.heap.size:=(Gs1.1 Z).1;have b9:bq<wc.heap.size:=by have:=aj.out.size;omega
    have ci:=Hd (S5.out.row 1 ((Om:1<6)) rfl ab).1;have w1:IntKind.i16.wrap u.left=u.left:=by rw[Ox];omega
    have df:IntKind.i16.wrap u.right=u.right:=by rw[Ox];omega
    have de:IntKind.i16.wrap u.weight=u.weight:=by rw[Ox];omega
    obtain⟨im,cu,cd,cb,ca⟩:=info_parts Fq;clear k1 k2;go_step;refine wp_seq_k λK hK=>?_
    go_cut [] from 49 to 63 (λwx=>∃ ak U,Hid (Zf I wx)/\Hid (Yr G (Zn us (k+1) (k+1) k L G V mm d.unkMeta (.slice ak (k+1) U) (.slice B4 k X)) wx)/\Hid (Fr (λj=>j=G\/j=V\/j=L\/(Value.slice B1 k Y).ownBlock=some j) wq wx))
    case first =>
     go_wp2_with (first
      | (at_builtin;refine wpList_append_own_at _ rfl _ _ 99 rfl 0 178 im _ 3 6 Tryz.underlying99 cu cd cb ca rfl (by decide) _ k _ rfl (ci.alloc _) ⟨wc.heap.size,0,none⟩ 1 1 (Lq u.left u.right u.weight) rfl rfl (Kc _ _ _ _) (by intro x hx;simp only[Lq,List.mem_cons,List.mem_nil_iff,or_false]at hx;rcases hx with rfl|rfl|rfl<;>rfl) (by unfold maxLen;omega) Om (Nat.zero_le _) ?_;intro v' w6 J z ah af;obtain⟨ak,U,bo⟩:=Zm J;subst bo;obtain⟨S6,a7⟩:=S5.out.rowApp 1 ((Om:1<6)) rfl ab z J af;have bm:=(S6.cell 0 ((Om:0<6)) rfl a7).1;have ep:w6.cell? ⟨L,0,none⟩=some (.slice B1 k Y):=cell_of bm 0 _ rfl;have el:=Zi bm 0;have H6:=Hd (Ai1 S6 (Ai1 a7 z));clear S6 bm J z af ah a7)
      | fail)
     go_meet
     case rel =>
      obtain⟨S6,a7,z⟩:=H6.out
      have F7:Fr (λj=>j=G\/j=V\/j=L\/(Value.slice B1 k Y).ownBlock=some j) wq (w6.setCell ⟨L,0,none⟩ (.slice ak (k+1) U)) :=
       (((aj.out.mono (λj _ e=>by rcases e with e|e<;>simp[e])).alloc _).grown z (λj e _=>.inr (.inr (.inr e)))).setCell _ _ (λ_=>.inr (.inr (.inl rfl)))
      refine⟨ak,U,d6.out.trans (S:=λ_=>False) F7 (λj hj e=>?_),?_,F7⟩
      ·have:=HH.out;have:=(S5.out.cell 0 ((Om:0<6)) rfl ab).2.1;rcases e with e|e|e|e
       ·omega
       ·omega
       ·omega
       ·have:=(S5.out.row 1 ((Om:1<6)) rfl ab).2.1 j e;omega
      ·have e1:Jz (us.take (k+1))=Jz (us.take k)++Lq u.left u.right u.weight:=by
        rw[List.take_succ_eq_append_getElem LK.out,bz.out];simp[Jz]
       have:=(S6.cell 0 ((Om:0<6)) rfl a7).2.2 0 (.slice ak (k+1) U);unfold Zn;rw[e1];exact this
    case rest =>
     obtain⟨ak,U,b0,S7,F7⟩:=hcut
     have m4:wc.cell? ⟨bq,4,none⟩=some (.slice Aq u.contents.length cq):=F7.out.cell dg.out (by
      rintro (e|e|e|e)
      ·have:bq=G:=e;omega
      ·have:bq=V:=e;omega
      ·have:bq=L:=e;omega
      ·have:=bh.out bq e;omega)
     clear m1 m2 m3 k0 b7 b9 Z ci w1 df de cu cd cb ca ab S5 aj;have ab:G<=wc.heap.size:=by rw[<- HH.out];exact b0.out.size
     have Z:=(S7.out.cell 0 ((Om:0<6)) rfl ab).1;have k4:wc.cell? ⟨L,4,none⟩=some (.slice B4 k X):=cell_of Z 4 _ rfl;have b7:L<wc.heap.size:=(Gs1.1 Z).1;have b9:bq<wc.heap.size:=lt_of_cell m4;have C4:=Qq (w:=wc.drew) (DT.Ty.ext strs HQ.out (b0.out.drew)) q9
     have ch:Hid (∀ j,(Value.slice B4 k X).ownBlock=some j->G<=j):=by
      obtain⟨F4,⟨_,_,_,bc,_⟩,dv⟩:=S7.out.get 5 ((Om:5<6));exact λj e=>(dv j (bc j e)).1
     have ct:(List.map GUnk.contents (List.take k us)).length=k:=by rw[List.length_map,List.length_take];omega
     have eb:=Hd ct;obtain⟨ic,du,dj,di,dh⟩:=info_parts Fp;clear Z ct;go_step
     go_region_law (first
      | (refine Z9 rfl _ _ 103 rfl 0 34 ic _ 1 24 Tryz.underlying103 du dj di dh rfl (by decide) (.slice B4 k X) k dy rfl (d9.out.alloc _) ⟨w8.heap.size,0,none⟩ 1 1 [.slice Ac u.contents.length cc] rfl rfl (Z2 _ _) (by intro x hx;rw[List.mem_singleton.1 hx];rfl) (by unfold maxLen;omega) Om (Nat.zero_le _) ?_;intro v' w9 J z ah af;obtain⟨b5,a8,bo⟩:=Zm J;subst bo;obtain⟨S9,au⟩:=d4.out _ w9 _ z J af;have bl:=(S9.cell 0 ((Om:0<6)) rfl au).1;have eo:w9.cell? ⟨L,4,none⟩=some (.slice B4 k X):=cell_of bl 4 _ rfl;have ek:=Zi bl 4;have H9:=Hd (Ai1 S9 (Ai1 au z));clear S9 bl J z af ah au)
      | (go_simp;go_at_call 101;refine C4.mono ?_;rintro e w8 ⟨c,rfl,bx,bb⟩;obtain⟨Ac,cc,ec,_⟩:=id bx;cases ec;obtain⟨dy,cj,b6⟩:=S7.out.rowDApp 5 ((Om:5<6)) rfl eb.out ab (((Fl wc).drew).then bb) bx;have d9:=Hd cj;have d4:=Hd b6;have d7:=Hd bb;have k4:=bb.cell k4 id;have ee:=lt_of_cell k4;clear cj b6 bb bx))
     all_goals (go_wp2_with fail;go_roundg (us.length-(k+1)))
     all_goals first
      | omega
      | skip
     all_goals
      obtain⟨S9,au,z⟩:=H9.out
      have e1:(us.take (k+1)).map GUnk.contents=(us.take k).map GUnk.contents++[u.contents]:=by
       rw[List.take_succ_eq_append_getElem LK.out,bz.out];simp
      have co:G<=L:=(S9.cell 0 ((Om:0<6)) rfl au).2.1
      have F9:Fr (λj=>G<=j) I (w9.setCell ⟨L,4,none⟩ (.slice b5 (k+1) a8)) :=
       ((((b0.out.mono (S':=λj=>G<=j) (λj _ e=>e.elim)).drew.ext d7.out).alloc _).grown z (λj e _=>ch.out j e)).setCell _ _ (λ_=>co)
      refine⟨k+1,.slice ak (k+1) U,.slice b5 (k+1) a8,by go_num,Om,Om,F9.mono (λj hj e=>?_),?_⟩
      ·have:=HH.out;omega
      ·have:=(S9.cell 0 ((Om:0<6)) rfl au).2.2 4 (.slice b5 (k+1) a8);show Yr G (Zn us (k+1) (k+1) (k+1) L G V mm d.unkMeta _ _) _;unfold Zn;rw[e1];exact this
  ·have cn:¬ (k:Int)<us.length:=Om;have ay:k=us.length:=Om;subst ay;have k0:wr.cell? ⟨L,0,none⟩=some (.slice B1 us.length Y):=cell_of Z 0 _ rfl;have k1:wr.cell? ⟨L,1,none⟩=some (.map (some G)):=cell_of Z 1 _ rfl;have k2:wr.cell? ⟨L,2,none⟩=some (.map (some V)):=cell_of Z 2 _ rfl;have k3:wr.cell? ⟨L,3,none⟩=some (.map (some mm)):=cell_of Z 3 _ rfl;have k4:wr.cell? ⟨L,4,none⟩=some (.slice B4 us.length X):=cell_of Z 4 _ rfl;have ae:=HX.out.heap M.out id;have r0:wr.cell? ⟨w.heap.size+1,0,none⟩=some (.slice none 0 0):=cell_of ae 0 _ rfl;have r1:wr.cell? ⟨w.heap.size+1,1,none⟩=some (.map none):=cell_of ae 1 _ rfl;have r2:wr.cell? ⟨w.heap.size+1,2,none⟩=some (.map none):=cell_of ae 2 _ rfl;have r3:wr.cell? ⟨w.heap.size+1,3,none⟩=some (.map none):=cell_of ae 3 _ rfl;have r4:wr.cell? ⟨w.heap.size+1,4,none⟩=some (.slice none 0 0):=cell_of ae 4 _ rfl;clear Z ae;have rf:=Zi (HX.out.heap M.out id);obtain⟨N,hN⟩:∃ N,N=w.heap.size+1:=⟨_,rfl⟩;rw[<- hN]at r0 r1 r2 r3 r4 rf lw⊢;have ea:=Hd hN;have ae:Hid (wr.heap[N]?=some (.cells #[.slice none 0 0,.map none,.map none,.map none,.slice none 0 0] 105 (0,0))):=by rw[hN];exact HX.out.heap M.out id
   clear hN;go_wp2_with fail
   obtain⟨g5,F6⟩:=Zj4 (.slice B1 us.length Y) (.map (some G)) (.map (some V)) (.map (some mm)) (.slice B4 us.length X) ae.out;generalize World.setCell (World.setCell (World.setCell (World.setCell (World.setCell _ _ _) _ _) _ _) _ _) _ _=w6 at g5 F6⊢;have z0:w6.cell? ⟨N,0,none⟩=some (.slice B1 us.length Y):=cell_of g5 0 _ rfl;have z1:w6.cell? ⟨N,1,none⟩=some (.map (some G)):=cell_of g5 1 _ rfl;have z2:w6.cell? ⟨N,2,none⟩=some (.map (some V)):=cell_of g5 2 _ rfl;have z3:w6.cell? ⟨N,3,none⟩=some (.map (some mm)):=cell_of g5 3 _ rfl;have z4:w6.cell? ⟨N,4,none⟩=some (.slice B4 us.length X):=cell_of g5 4 _ rfl;clear k0 k1 k2 k3 k4 r0 r1 r2 r3 r4 rf g5;refine bodyPost_ret (by simp[results,Tryz.results47,z0,z1,z2,z3,z4,go_sem];try rfl) rfl ?_;refine⟨L,G,V,mm,.slice B1 us.length Y,.slice B4 us.length X,rfl,?_,?_⟩
   ·refine Fr.trans (S:=λ_=>False) (cz.out.then HX.out) F6 (λj hj e=>?_);have:=ea.out;omega
   ·have e1:=HU.out.2.1;have e2:=HU.out.2.2;rw[<- e1,<- e2];refine Yr.base (Yr.low ST.out (F6.mono (λj _ e=>?_))) ?_
    ·have:=HH.out;omega
    ·have:=HH.out;omega
end Go.Proofs.YtlfoalomaofejaaGreatDoor
