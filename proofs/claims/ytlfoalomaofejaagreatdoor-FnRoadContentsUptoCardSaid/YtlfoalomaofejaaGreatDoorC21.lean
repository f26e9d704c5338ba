/- impl.unknowns. -/
import Derived.Test.YtlfoalomaofejaaGreatDoorC5
import Derived.Test.YtlfoalomaofejaaGreatDoorC10
import Derived.Test.YtlfoalomaofejaaGreatDoorC20
set_option linter.all false
set_option maxRecDepth 100000
set_option maxHeartbeats 4000000
namespace Go.Proofs.YtlfoalomaofejaaGreatDoor
open Go.RowKit DT SS
theorem Qn{w:World}{O:Nat->Prop}{xs:List ByteArray}{q:Value}(h:strs.R w O xs [q])(hn:xs.length<=2147483647) :
  Calls Tryz.prog 101 #[q] w λe w'=>∃ v,e=.returned v/\strs.R w' (λj=>w.heap.size<=j) xs [v]/\Zf w w':=by
 obtain⟨A,c,e,hc,hA,hat⟩:=h;cases e
 have hcells:∀ a,A=some a->∀ j u,(xs.map Value.string)[j]?=some u->w.cell? (a.add j)=some u:=by
  intro a ha j u hu;have hj:j<xs.length:=by simpa using (Gl.1 hu).1
  obtain⟨b,o,e,_,_,c0,_⟩:=Vw hat j hj;rw[ha]at e;injection e with e
  subst e;rw[Addr.add_lit,c0];rw[List.getElem?_map,Ge hj]at hu;exact hu
 have hsz:∀ x∈xs,x.size<=9223372036854775807:=by
  intro x hx;obtain⟨i,hi,rfl⟩:=List.getElem_of_mem hx;obtain⟨_,_,_,_,_,_,hs⟩:=Vw hat i hi;exact hs
 refine (Zgh A xs.length c (xs.map Value.string) w (by simp) (λe=>⟨by have:=hA e;omega,hA e⟩) hcells (by intro u hu;obtain⟨x,_,rfl⟩:=List.mem_map.1 hu;rfl) hn).mono ?_;rintro e w' ⟨v,rfl,h1,h2,_⟩;exact⟨v,rfl,Wq h1 hsz,h2⟩
def numOf:Option Value->Int
 | some (.int _ n)=>n
 | _=>0
def Y7(st:List (Int×Value)×List (Int×Value))(i:Nat)(u:GUnk):List (Int×Value)×List (Int×Value) :=
 match look st.1 u.cls with
 | some _=>(st.1,put st.2 u.cls (.int .i32 (numOf (look st.2 u.cls)+1)))
 | none=>(put st.1 u.cls (.int .i32 i),st.2)
def Zp(us:List GUnk):Nat->List (Int×Value)×List (Int×Value)
 | 0=>([],[])
 | k+1=>Y7 (Zp us k) k (us.getD k default)
def Vv(us:List GUnk):=Zp us us.length
def M9(l r w:Int):List Value:=[.int .i16 l,.int .i16 r,.int .i16 w]
def Jf(us:List GUnk):List Value:=us.flatMap λu=>M9 u.left u.right u.weight
def Zj(ms:List DT.GMark):List Wb:=ms.map λm=>(m.name,m.place)
def Ze(d:Zg):List GUnk:=Z6 P8 d.unknown
def Zjq(us:List GUnk):Prop:=us.length<=100000/\∀ u∈us,(0<=u.cls/\u.cls<=1000)/\(-32768<=u.left/\u.left<=32767)/\(-32768<=u.right/\u.right<=32767)/\(-32768<=u.weight/\u.weight<=32767)/\u.contents.length<=2147483647
def Zn(us:List GUnk)(km k k4 ko mi md mm:Nat)(ms:List DT.GMark)(v1 v4:Value):List Qx :=
 [Tj ko #[v1,.map (some mi),.map (some md),.map (some mm),v4] 105,Yn 178 3 v1 k (Jf (us.take k)),Lb Tg mi (Zp us km).1,Lb Tg md (Zp us km).2,Lb Xx mm (Xo (Zj ms)),rowD strs 34 v4 ((us.take k4).map GUnk.contents)]
abbrev Nh(us:List GUnk)(k ko mi md mm:Nat)(ms:List DT.GMark)(v1 v4:Value):List Qx:=Zn us k k k ko mi md mm ms v1 v4
theorem Zmw{w:World}{O:Nat->Prop}{A:Option Addr}{us:List GUnk}(h:tUnk.At w O A us)(hb:∀ u∈us,0<=u.cls/\u.cls<=1000):∃ ys:List Uu,ys.map Subtype.val=us/\tUnkB.At w O A ys:=by
 refine⟨us.attach.map λu=>⟨u.1,hb u.1 u.2⟩,by simp[List.map_map,Function.comp_def],?_⟩;obtain⟨hl,h⟩:=h;refine⟨by simpa using hl,?_⟩;rcases h with rfl|⟨b,o,e,hb,hlt,hc⟩
 ·exact .inl rfl
 ·refine .inr ⟨b,o,e,hb,hlt,λi hi=>?_⟩;obtain⟨cs,h1,h2⟩:=hc i (by simpa using hi);refine⟨cs,?_,h2⟩;show tUnk.R w O _ cs;simpa using h1
theorem Zb2(ys:List Uu):(Z6 Sv ys).map Subtype.val=Z6 P8 (ys.map Subtype.val):=M1 P8 Subtype.val ys
theorem Yo.base{H H':Nat}{l:List Qx}{w:World}(h:Yo H l w)(hh:H'<=H):Yo H' l w:=by
 obtain⟨Fs,h1,h2,h3⟩:=h;exact⟨Fs,h1,h2,λi hi b hb=>⟨Nt hh (h3 i hi b hb).1,(h3 i hi b hb).2⟩⟩
theorem Zi8(us:List GUnk):∀ (k:Nat) (c:Int),∃ n:Nat,(look (Zp us k).2 c).getD (.int .i32 0)=.int .i32 (n:Int)/\numOf (look (Zp us k).2 c)=(n:Int)/\n<=k
 | 0,c=>⟨0,rfl,rfl,Nl _⟩
 | k+1,c=>by
  obtain⟨n,h1,h2,h3⟩:=Zi8 us k c;show ∃ n:Nat,(look (Y7 (Zp us k) k (us.getD k default)).2 c).getD (.int .i32 0)=.int .i32 (n:Int)/\numOf (look (Y7 (Zp us k) k (us.getD k default)).2 c)=(n:Int)/\n<=k+1;unfold Y7
  split
  ·simp only[Wi]
   split
   next e =>
    subst e;rw[h2];exact⟨n+1,by simp,by simp[numOf],Om⟩
   next=>exact⟨n,h1,h2,Om⟩
  ·exact⟨n,h1,h2,Om⟩
theorem Oh(x:Int):IntKind.i16.wrap x=(x+32768) % 65536-32768:=by
 simp[IntKind.wrap,IntKind.bits,IntKind.signed]
 split<;>omega
theorem Gu:(Tryz.prog.info? 34).map (λi=>(i.zero,i.size,i.bytes))=some (some (.slice none 0 0),1,24):=Kr
theorem Gv:(Tryz.prog.info? 178).map (λi=>(i.zero,i.size,i.bytes))=some (some (.agg #[.int .i16 0,.int .i16 0,.int .i16 0]),3,6):=Kr
theorem Lv(w:World)(x y z:Value){T:TypeId}:∀ j u,[x,y,z][j]?=some u->(w.alloc (.cells #[x,y,z] T)).cell? ((⟨w.heap.size,0,none⟩:Addr).add j)=some u:=by
 intro j u hj;rw[Addr.add_lit,Nat.zero_add];exact Yb w #[x,y,z] T j u (by rw[<- hj];simp)
theorem Ziz{w:World}{N:Nat}{a0 a1 a2 a3 a4:Value}{T:TypeId}(x0 x1 x2 x3 x4:Value)(h:w.heap[N]?=some (.cells #[a0,a1,a2,a3,a4] T (0,0))) :
  ((((((w.setCell ⟨N,0,none⟩ x0).setCell ⟨N,1,none⟩ x1).setCell ⟨N,2,none⟩ x2).setCell ⟨N,3,none⟩ x3).setCell ⟨N,4,none⟩ x4)).heap[N]?=some (.cells #[x0,x1,x2,x3,x4] T (0,0)) /\
  Fr (λj=>j=N) w ((((((w.setCell ⟨N,0,none⟩ x0).setCell ⟨N,1,none⟩ x1).setCell ⟨N,2,none⟩ x2).setCell ⟨N,3,none⟩ x3).setCell ⟨N,4,none⟩ x4)):=by
 refine⟨?_,(((((Fr.refl (λj=>j=N) w).setCell ⟨N,0,none⟩ x0 (λ_=>rfl)).setCell ⟨N,1,none⟩ x1 (λ_=>rfl)).setCell ⟨N,2,none⟩ x2 (λ_=>rfl)).setCell ⟨N,3,none⟩ x3 (λ_=>rfl)).setCell ⟨N,4,none⟩ x4 (λ_=>rfl)⟩;have b0:=Yk h 0 x0;have b1:=Yk b0 1 x1;have b2:=Yk b1 2 x2;have b3:=Yk b2 3 x3;have b4:=Yk b3 4 x4;rw[b4];rfl
theorem Zeu{us:List GUnk}{ko mi md mm H:Nat}{ms:List DT.GMark}{w:World}(h0:w.heap[ko]?=some (.cells #[.slice none 0 0,.map (some mi),.map (some md),.map (some mm),.slice none 0 0] 105 (0,0)))(h1:Zz Tg mi [] w)(h2:Zz Tg md [] w)(h3:Zz Xx mm (Xo (Zj ms)) w)
  (d1:H<=mi) (d2:mi<md) (d3:md<mm) (d4:mm<ko):Yo H (Nh us 0 ko mi md mm ms (.slice none 0 0) (.slice none 0 0)) w:=by
 have l0:=(Gs1.1 h0).1;refine⟨λi b=>(i=0/\b=ko)\/(i=2/\b=mi)\/(i=3/\b=md)\/(i=4/\b=mm),λi hi=>?_,λi j hi hj hij b hb hb'=>Om,λi hi b hb=>Om⟩
 match i,hi with
 | 0,_=>exact⟨h0,.inl ⟨rfl,rfl⟩⟩
 | 1,_=>exact⟨World.ownsRow_nil _ _ _ _,λb e=>by cases e⟩
 | 2,_=>exact⟨h1,.inr (.inl ⟨rfl,rfl⟩)⟩
 | 3,_=>exact⟨h2,.inr (.inr (.inl ⟨rfl,rfl⟩))⟩
 | 4,_=>exact⟨h3,.inr (.inr (.inr ⟨rfl,rfl⟩))⟩
 | 5,_=>exact⟨[],rfl,World.ownsRow_nil _ _ _ _,(λb e=>by cases e),(λi hi=>by simp at hi)⟩
theorem Za4{τ:Type}{kv:τ->Value}{k B T n:Nat}{v:Value}{es:List (El τ k)}{w:World}(h:w.ownsRow B T (k+1) v n (es.flatMap (El.enc kv)))(i:Nat)(hi:i<es.length) :
  ∃ b cp,v=.slice (some ⟨b,0,none⟩) n cp/\∀ j u,(es[i].enc kv)[j]?=some u->w.cell? ⟨b,i*(k+1)+j,none⟩=some u:=by
 rcases id h.2 with ⟨rfl,rfl⟩|⟨g,cap,cur,rfl,hb,hc,h2,h3,h4,h5⟩
 ·have:=h.1;rw[N9]at this
  have h0:es.length=0:=by
   rcases Nat.eq_zero_or_pos es.length with q|q
   ·exact q
   ·have:=Nat.mul_le_mul_right (k+1) (show 1<=es.length from q);omega
  omega
 ·refine⟨g,cap,rfl,λj u hu=>?_⟩;have hj:j<k+1:=by rw[<- El.enc_len kv es[i]];exact (Gl.1 hu).1
  have hget:∀ (l:List (El τ k)) (i j:Nat) (hi:i<l.length) (hj:j<k+1),(l.flatMap (El.enc kv))[i*(k+1)+j]?=(l[i].enc kv)[j]?:=by
   intro l
   induction l with
   | nil=>intro i j hi;simp at hi
   | cons x l ih =>
    intro i j hi hj;rw[List.flatMap_cons]
    cases i with
    | zero =>
     rw[List.getElem?_append_left (by rw[El.enc_len];omega)];simp
    | succ i =>
     have hi':i<l.length:=(by simpa using hi);rw[List.getElem?_append_right (by rw[El.enc_len,Nat.add_mul];omega),El.enc_len,show (i+1)*(k+1)+j-(k+1)=i*(k+1)+j by rw[Nat.add_mul];omega,ih i j hi' hj];simp
  have e:=hget es i j hi hj;rw[hu]at e;have:=h.cells (g:=g) rfl _ _ e;rw[Addr.add_lit,Nat.zero_add]at this;exact this
theorem Fx(d:Zg)(cs:List Value)(O:Nat->Prop)(w:World)(h:tDict.R w O d cs)(hu:Zjq d.unknown)(hm:∀ m∈d.unkMeta,0<=m.place/\m.place<=100)(hml:d.unkMeta.length<=100000) :
  Calls Tryz.prog 47 #[.agg cs.toArray] w λe w'=>∃ ko mi md mm v1 v4,e=.returned (.agg #[v1,.map (some mi),.map (some md),.map (some mm),v4])/\Zf w w'/\Yo w.heap.size (Nh (Ze d) d.unknown.length ko mi md mm d.unkMeta v1 v4) w':=by
 obtain⟨A1,c1,A2,c2,A3,c3,A4,c4,A5,c5,A6,c6,A7,c7,A8,c8,rfl,h1,h2,h3,h4,h5,h6,h7,h8,hr,hc⟩:=Yy h;have mixed:Tryz.prog.follows .mixedOrders=true:=Kr
 have X1:Zf w ((w.alloc (.cells #[.slice A1 d.words.length c1,.int .i64 d.rows,.int .i64 d.cols,.slice A2 d.costs.length c2,.slice A3 d.classes.length c3,.slice A4 d.chars.length c4,.slice A5 d.unknown.length c5,.slice A6 d.meta0.length c6,.slice A7 d.unkMeta.length c7,.bool d.hasUser,.slice A8 d.user.length c8] 30)).alloc (.cells #[.slice none 0 0,.map none,.map none,.map none,.slice none 0 0] 105)):=((Fl _).alloc _).alloc _;obtain⟨ys,hys,hat⟩:=Zmw (Z3 h5.2.2 X1) (λu hm=>(hu.2 u hm).1);obtain⟨ds,hels,hcells⟩:=Zcz (kv:=L5) (k:=4) rfl (λ{w O x cs} hr=>by obtain⟨q,rfl,_⟩:=Rq hr;exact⟨_,rfl⟩) hat;have hdl:ds.length=d.unknown.length:=by rw[Dq hels,<- hys,List.length_map]
 have C1:=Zgg A5 d.unknown.length c5 (ds.flatMap (El.enc L5)) _ (by rw[N9,hdl]) (λe=>⟨by have:=h5.2.1 e;have:=h5.1;omega,h5.2.1 e⟩) hcells (by
  intro u hu;obtain⟨x,_,hx⟩:=List.mem_flatMap.1 hu
  exact El.enc_one (λ_=>rfl) x u hx) (by have:=hu.1;omega)
 have HC:=Hd (Ai1 h7 hels);clear h h1 h2 h3 h4 h5 h6 h7 h8;go_enter Tryz.func47,Tryz.ntmps47
 go_upto_region 2 with (first|(go_at_call 97;refine C1.mono ?_;rintro e w1 ⟨v,rfl,hv,hx1,_⟩;have HV:=Hd hv;have HX1:=Hd hx1;clear hv hx1 C1)|fail)
 obtain⟨W1,hW1⟩:∃ W1,W1=((w.alloc (.cells #[.slice A1 d.words.length c1,.int .i64 d.rows,.int .i64 d.cols,.slice A2 d.costs.length c2,.slice A3 d.classes.length c3,.slice A4 d.chars.length c4,.slice A5 d.unknown.length c5,.slice A6 d.meta0.length c6,.slice A7 d.unkMeta.length c7,.bool d.hasUser,.slice A8 d.user.length c8] 30)).alloc (.cells #[.slice none 0 0,.map none,.map none,.map none,.slice none 0 0] 105)):=⟨_,rfl⟩
 have kb8:W1.cell? ⟨w.heap.size,8,none⟩=some (.slice A7 d.unkMeta.length c7):=by
  rw[hW1];exact (((Fe _).alloc _).cell (Yb w _ _ 8 _ rfl) id)
 have krb:W1.heap[w.heap.size+1]?=some (.cells #[.slice none 0 0,.map none,.map none,.map none,.slice none 0 0] 105 (0,0)):=by
  rw[hW1];exact alloc_at' _ _ (by rw[Za])
 have hW1s:W1.heap.size=w.heap.size+2:=by rw[hW1,Za,Za]
 rw[<- hW1]at X1 HV HX1 HC;have C2:=Zfa W1.heap.size 36 d.unknown.length v ds w1 HV.out hdl (by have:=hu.1;omega) hels.tag;have HW1:=Hd (Ai1 kb8 (Ai1 krb hW1s));have HXW:=Hd X1;clear kb8 krb hW1s hW1 X1 hels hat hcells;go_upto_region 3 with (first|(go_at_call 98;refine C2.mono ?_;rintro e w2 ⟨rfl,hv,hf⟩;have HV2:=Hd hv;have HF2:=Hd hf;clear hv hf C2)|fail)
 have hfr:∀ j,v.ownBlock=some j->W1.heap.size<=j:=λj e=>Y1 (g:=j) HV.out e
 obtain⟨kb8,krb,hW1s⟩:=HW1.out;have FW:Fr (λj=>v.ownBlock=some j) W1 w2:=Fr.trans (S:=λj=>v.ownBlock=some j) (HX1.out.mono (λ_ _ e=>e.elim)) HF2.out (λ_ _ q=>q);have X2:Zf w w2:=((HXW.out.mono (λ_ _ e=>e.elim)).trans FW (S:=λj=>False) (λj hj e=>by have:=hfr j e;omega));have kb8:w2.cell? ⟨w.heap.size,8,none⟩=some (.slice A7 d.unkMeta.length c7):=FW.cell kb8 (λe=>by have:W1.heap.size<=w.heap.size:=hfr _ e;omega);have krb:w2.heap[w.heap.size+1]?=some (.cells #[.slice none 0 0,.map none,.map none,.map none,.slice none 0 0] 105 (0,0)):=FW.heap krb (λe=>by have:=hfr _ e;omega);obtain⟨us,husd⟩:∃ us,us=Ze d:=⟨_,rfl⟩
 have hes:(Z6 (λx y:El Uu 4=>Sv x.key y.key) ds).map (λx=>x.key.1)=us:=by
  have e1:=(O6 HC.2 Sv).1;rw[husd];show _=Z6 P8 d.unknown;rw[<- hys,<- Zb2,<- e1,List.map_map];rfl
 have hul:us.length=d.unknown.length:=by rw[husd];exact (Zy _ _).length_eq
 have hUO:Zjq us:=by
  refine⟨by rw[hul];exact hu.1,λu hm=>hu.2 u ?_⟩;rw[husd]at hm;exact (Zy _ _).mem_iff.1 hm
 have ROWU:∀ k (hk:k<us.length),∃ b cp A c,v=.slice (some ⟨b,0,none⟩) us.length cp/\strs.R w2 O us[k].contents [.slice A us[k].contents.length c]/\w2.cell? ⟨b,k*5,none⟩=some (.int .i64 us[k].cls)/\w2.cell? ⟨b,k*5+1,none⟩=some (.int .i64 us[k].left)/\w2.cell? ⟨b,k*5+2,none⟩=some (.int .i64 us[k].right)/\w2.cell? ⟨b,k*5+3,none⟩=some (.int .i64 us[k].weight)/\w2.cell? ⟨b,k*5+4,none⟩=some (.slice A us[k].contents.length c):=by
  intro k hk;have hk2:k<(Z6 (λx y:El Uu 4=>Sv x.key y.key) ds).length:=by rw[<- hes,List.length_map]at hk;exact hk
  obtain⟨b,cp,e,hc⟩:=Za4 HV2.out k hk2
  have hx:(Z6 (λx y:El Uu 4=>Sv x.key y.key) ds)[k].key.1=us[k]:=by
   have:(((Z6 (λx y:El Uu 4=>Sv x.key y.key) ds)).map (λx=>x.key.1))[k]?=us[k]?:=(by rw[hes]);rw[List.getElem?_map,Ge hk2,Ge hk]at this;exact Option.some.inj this
  have hr:=(O6 HC.2 Sv).2 _ (List.getElem_mem hk2)
  have hr2:tUnk.R w2 O us[k] ((Z6 (λx y:El Uu 4=>Sv x.key y.key) ds)[k].enc L5):=by
   rw[<- hx];exact tUnk.keep (show tUnk.R W1 O _ _ from hr) FW (λj hj _ e=>by have:=hfr j e;omega)
  obtain⟨q,e2,hq⟩:=Rq hr2;obtain⟨A,c,e3,hq2⟩:=hq;cases e3;rw[e2]at hc;rw[hul];exact⟨b,cp,A,c,e,⟨A,c,rfl,hq2⟩,hc 0 _ rfl,hc 1 _ rfl,hc 2 _ rfl,hc 3 _ rfl,hc 4 _ rfl⟩
 have RU:=Hd ROWU;have HU:=Hd (Ai1 hUO (Ai1 husd hul));rw[<- hul];have hul2:us.length<=100000:=by rw[hul];exact hu.1
 rw[<- hul]at HV2;have kb8:=Hd kb8;have krb:=Hd krb;have HX2:=Hd X2;clear ROWU hes hfr hys hdl hW1s X2 FW husd hul hUO;obtain⟨Av,cv,hve⟩:=Zl HV2.out;subst hve;have hmm:=@run_makeMap Tryz.prog;have hk8:w2.cell? ⟨w.heap.size,8,none⟩=some (.slice A7 d.unkMeta.length c7):=kb8
 have C3:∀ W:World,Zf w2 W->Calls Tryz.prog 100 #[.slice A7 d.unkMeta.length c7] W λe w'=>e=.returned (.map (some W.heap.size))/\Zz Xx W.heap.size (Xo (Zj d.unkMeta)) w'/\Zf W w':=by
  intro W hw;have hlen:(Zj d.unkMeta).length=d.unkMeta.length:=by simp[Zj]
  have:=Gj (Zj d.unkMeta) A7 c7 W (λj hj=>by
   have hj':j<d.unkMeta.length:=by rw[<- hlen];exact hj
   obtain⟨b,o,e,_,_,c0,c1,_⟩:=Dc (Z3 HC.1.2.2 (HX2.out.then hw)) j hj';have en:(Zj d.unkMeta)[j]=(d.unkMeta[j].name,d.unkMeta[j].place):=(by simp[Zj]);rw[en]
   exact⟨b,o,e,c0,c1⟩) (λm hmem=>by
   obtain⟨x,hx,rfl⟩:=List.mem_map.1 hmem
   exact hm x hx) (by rw[hlen];exact hml)
  rw[hlen]at this;exact this
 have C3:Hid _:=C3
 have lw:w.heap.size+1<w2.heap.size:=by
  have:=(Gs1.1 krb.out).1;omega
 have lw0:w.heap.size<w2.heap.size:=Om
 go_upto_region 4 with (first|(go_at_call 100;refine (C3.out _ (((Fl w2).alloc _).alloc _)).mono ?_;rintro e w3 ⟨rfl,hm3,hx3⟩;have HM3:=Hd hm3;have HX3:=Hd hx3;clear hm3 hx3)|fail)
 have ST:=Hd (Zeu (us:=us) (ms:=d.unkMeta) (H:=w2.heap.size) (alloc_at w3 (.cells #[.slice none 0 0,.map (some w2.heap.size),.map (some (w2.heap.size+1)),.map (some (w2.heap.size+1+1)),.slice none 0 0] 105)) ((((Zz.made Tg w2).alloc (.map #[] 0)).keep HX3.out id).alloc _) (((show Zz Tg (w2.heap.size+1) [] _ by have:=Zz.made Tg (w2.alloc (.map #[] 0));rw[Za]at this;exact this).keep HX3.out id).alloc _) ((show Zz Xx (w2.heap.size+1+1) (Xo (Zj d.unkMeta)) w3 by have:=HM3.out;rw[Za,Za]at this;exact this).alloc _) (Nl _) Om Om (by
  have:=HM3.out.lt;rw[Za,Za]at this
  exact this))
 have X4:Hid (Zf w2 (w3.alloc (.cells #[.slice none 0 0,.map (some w2.heap.size),.map (some (w2.heap.size+1)),.map (some (w2.heap.size+1+1)),.slice none 0 0] 105))):=((((Fl w2).alloc _).alloc _).then HX3.out).alloc _;obtain⟨mi,hmi⟩:∃ m,m=w2.heap.size:=⟨_,rfl⟩;rw[<- hmi]at ST X4⊢;obtain⟨md,hmd⟩:∃ m,m=mi+1:=⟨_,rfl⟩;rw[<- hmd]at ST X4⊢;obtain⟨mm,hmm2⟩:∃ m,m=md+1:=⟨_,rfl⟩;rw[<- hmm2]at ST X4⊢;obtain⟨ko,hko⟩:∃ m,m=w3.heap.size:=⟨_,rfl⟩;rw[<- hko]at ST⊢;have HH:Hid (w2.heap.size=mi):=hmi.symm;have HMD0:Hid (mi<md):=by show mi<md;omega
 clear hmi hmd hmm2 hko HM3 hk8;generalize w3.alloc _=w4 at ST X4⊢;clear HX3;go_wp2_with fail
 go_loopg [23] us.length (λg1 vi wr=>∃ (k:Nat) (v1 v4:Value),vi=.int .i64 k/\k<=us.length/\us.length<=k+g1/\Hid (Zf w2 wr)/\Hid (Yo mi (Nh us k ko mi md mm d.unkMeta v1 v4) wr))
 case atStart=>exact⟨0,_,_,rfl,Om,Om,X4,ST⟩
 case round =>
  clear ST X4;obtain⟨k,v1,v4,rfl,hk,hg,HX,ST⟩:=hrel;have hHw:mi<=wr.heap.size:=by rw[<- HH.out];exact HX.out.size
  obtain⟨B1,cb1,ev1⟩:=Zl (ST.out.row 1 ((Om:1<6)) rfl hHw).1;obtain⟨_,⟨cs4,hcs4,ho4,_⟩,_⟩:=ST.out.get 5 ((Om:5<6));obtain⟨B4,cb4,ev4⟩:=Zl ho4;have kc:=(ST.out.cell 0 (Nat.zero_lt_succ _) rfl hHw).1;subst ev1 ev4;clear ho4 hcs4;rw[List.length_map,List.length_take,Nat.min_eq_left hk]at kc ST;by_cases hlt:k<us.length
  ·have hltz:(k:Int)<us.length:=Om;obtain⟨b,cp,Aq,cq,e,hq,e0,e1,e2,e3,e4⟩:=RU.out k hlt;simp only[Value.slice.injEq]at e;obtain⟨rfl,_,rfl⟩:=e;have e0:=HX.out.cell e0 id;have e1:=HX.out.cell e1 id;have e2:=HX.out.cell e2 id;have e3:=HX.out.cell e3 id;have e4:=HX.out.cell e4 id;have hux:=HU.out.1.2 _ (List.getElem_mem hlt);generalize hx:us[k]=u at e0 e1 e2 e3 e4 hq hux;obtain⟨⟨q1,q2⟩,⟨q3,q4⟩,⟨q5,q6⟩,⟨q7,q8⟩,q9⟩:=hux;have HXX:=Hd hx;have LK:=Hd hlt;have HQ:=Hd hq;clear hx hq;go_upto_region 7 with fail
   have m0:=Yb wr #[.int .i64 u.cls,.int .i64 u.left,.int .i64 u.right,.int .i64 u.weight,.slice Aq u.contents.length cq] 36 0 _ rfl;have m1:=Yb wr #[.int .i64 u.cls,.int .i64 u.left,.int .i64 u.right,.int .i64 u.weight,.slice Aq u.contents.length cq] 36 1 _ rfl;have m2:=Yb wr #[.int .i64 u.cls,.int .i64 u.left,.int .i64 u.right,.int .i64 u.weight,.slice Aq u.contents.length cq] 36 2 _ rfl;have m3:=Yb wr #[.int .i64 u.cls,.int .i64 u.left,.int .i64 u.right,.int .i64 u.weight,.slice Aq u.contents.length cq] 36 3 _ rfl;have m4:=Yb wr #[.int .i64 u.cls,.int .i64 u.left,.int .i64 u.right,.int .i64 u.weight,.slice Aq u.contents.length cq] 36 4 _ rfl;have XQ:Zf wr (wr.alloc (.cells #[.int .i64 u.cls,.int .i64 u.left,.int .i64 u.right,.int .i64 u.weight,.slice Aq u.contents.length cq] 36)):=(Fl _).alloc _;have hbq:mi<=wr.heap.size:=hHw;have lbq:wr.heap.size<(wr.alloc (.cells #[.int .i64 u.cls,.int .i64 u.left,.int .i64 u.right,.int .i64 u.weight,.slice Aq u.contents.length cq] 36)).heap.size:=by rw[Za];omega
   generalize wr.alloc _=wq at m0 m1 m2 m3 m4 XQ lbq⊢;have hHq:mi<=wq.heap.size:=Om;have bko:ko<wr.heap.size:=(Gs1.1 kc).1;have bown:Hid (∀ j,(Value.slice B1 k cb1).ownBlock=some j->j<wr.heap.size):=λj e=>((ST.out.row 1 ((Om:1<6)) rfl hHw).2.1 j e).2
   have bmi:mi<wr.heap.size:=(ST.out.map 2 ((Om:2<6)) rfl hHw).1.lt;have bmd:md<wr.heap.size:=(ST.out.map 3 ((Om:3<6)) rfl hHw).1.lt;have SQ:=Hd (ST.out.ext XQ);have HXQ:=Hd (HX.out.then XQ);have kc:=XQ.heap kc id;have HBQ:Hid (∀ (l:List Qx) (F:Nat->Prop),(∀ b,F b->b<wr.heap.size)->¬ F wr.heap.size):=λl F h q=>by have:=h _ q;omega
   generalize hbqe:wr.heap.size=bq at m0 m1 m2 m3 m4 lbq bmi bmd bko bown⊢;have HBE:=Hd hbqe;clear hbqe e0 e1 e2 e3 e4 XQ ST HX;have hw7:IntKind.i32.wrap u.cls=u.cls:=by rw[IntKind.wrap_i32];omega
   go_cut [7] from 28 to 30 (λv wx=>v=.int .i32 u.cls/\wq=wx)
   case first =>
    go_wp2_with fail
    go_meet
    case rel=>exact⟨rfl,rfl⟩
   obtain⟨rfl,rfl⟩:=hcut;have k1:wq.cell? ⟨ko,1,none⟩=some (.map (some mi)):=cell_of kc 1 _ rfl;have k2:wq.cell? ⟨ko,2,none⟩=some (.map (some md)):=cell_of kc 2 _ rfl;clear hw7;go_step;refine wp_seq_k λK hK=>?_
   go_cut [] from 31 to 48 (λwx=>Hid (Fr (λj=>j=mi\/j=md) wq wx)/\Hid (Yo mi (Zn us (k+1) k k ko mi md mm d.unkMeta (.slice B1 k cb1) (.slice B4 k cb4)) wx))
   case first =>
    obtain⟨hmi,_,upi⟩:=SQ.out.map 2 ((Om:2<6)) rfl hHq;obtain⟨hmd,_,upd⟩:=SQ.out.map 3 ((Om:3<6)) rfl hHq
    have hstep:Zp us (k+1)=Y7 (Zp us k) k u:=by
     show Y7 _ _ (us.getD k default)=_;rw[List.getD_eq_getElem?_getD,Ge LK.out,HXX.out];rfl
    have HMI:=Hd hmi;have HMD:=Hd hmd;clear hmi hmd
    cases hlk:look (Zp us k).1 u.cls with
    | none =>
     have hs1:Zp us (k+1)=(put (Zp us k).1 u.cls (.int .i32 k),(Zp us k).2):=by rw[hstep];unfold Y7;rw[hlk]
     have HS1:=Hd hs1;have UPI:=Hd upi;clear hs1 hstep upi upd
     go_wp2_with (first
      | (at_lookup;refine Zk rfl _ _ true rfl Sw Tryz.underlying100 Tryz.underlying21 (R7 _) rfl HMI.out u.cls rfl ?_;simp only[if_true,hlk,Option.getD_none,Option.isSome_none])
      | (at_mapUpdate;refine Yj rfl _ _ _ rfl Sw Tryz.underlying100 Tryz.underlying21 rfl HMI.out u.cls (.int .i32 (k:Int)) rfl rfl ?_;intro w5 hm5 hf5 hs5;have HM5:=Hd (Ai1 hm5 hf5);clear hm5 hf5 hs5)
      | fail)
     go_meet
     case rel=>exact⟨HM5.out.2.mono (λj _ e=>.inl e),by
      have:=UPI.out _ _ HM5.out.2 HM5.out.1;unfold Zn;rw[HS1.out]
      exact this⟩
    | some vi =>
     obtain⟨n,hn1,hn2,hn3⟩:=Zi8 us k u.cls;have hs1:Zp us (k+1)=((Zp us k).1,put (Zp us k).2 u.cls (.int .i32 ((n:Int)+1))):=by rw[hstep];unfold Y7;rw[hlk];simp only[hn2]
     have HS1:=Hd hs1;have UPD:=Hd upd;clear hs1 hstep upi upd hn2
     go_wp2_with (first
      | (at_lookup;refine Zk rfl _ _ true rfl Sw Tryz.underlying100 Tryz.underlying21 (R7 _) rfl HMI.out u.cls rfl ?_;simp only[if_true,hlk,Option.getD_some,Option.isSome_some])
      | (at_lookup;refine Zk rfl _ _ false rfl Sw Tryz.underlying100 Tryz.underlying21 (R7 _) rfl HMD.out u.cls rfl ?_;simp only[Bool.false_eq_true,if_false,hn1])
      | (at_mapUpdate;refine Yj rfl _ _ _ rfl Sw Tryz.underlying100 Tryz.underlying21 rfl HMD.out u.cls (.int .i32 ((n:Int)+1)) rfl rfl ?_;intro w5 hm5 hf5 hs5;have HM5:=Hd (Ai1 hm5 hf5);clear hm5 hf5 hs5)
      | fail)
     go_meet
     case rel=>exact⟨HM5.out.2.mono (λj _ e=>.inr e),by
      have:=UPD.out _ _ HM5.out.2 HM5.out.1;unfold Zn;rw[HS1.out]
      exact this⟩
   case rest =>
    obtain⟨HF5,S5⟩:=hcut;have hne:¬ (bq=mi\/bq=md):=Om;have hmd:mi<md:=HMD0.out;have m1:=HF5.out.cell m1 hne;have m2:=HF5.out.cell m2 hne;have m3:=HF5.out.cell m3 hne;have m4Q:=Hd m4;clear m4;have hHc:mi<=wc.heap.size:=by have:=HF5.out.size;omega
    have kc:=(S5.out.cell 0 ((Om:0<6)) rfl hHc).1;have k0:wc.cell? ⟨ko,0,none⟩=some (.slice B1 k cb1):=cell_of kc 0 _ rfl;have lko:ko<wc.heap.size:=(Gs1.1 kc).1;have lbc:bq<wc.heap.size:=by have:=HF5.out.size;omega
    have hr1:=Hd (S5.out.row 1 ((Om:1<6)) rfl hHc).1;have w1:IntKind.i16.wrap u.left=u.left:=by rw[Oh];omega
    have w2':IntKind.i16.wrap u.right=u.right:=by rw[Oh];omega
    have w3':IntKind.i16.wrap u.weight=u.weight:=by rw[Oh];omega
    obtain⟨im,him,im0,im1,im2⟩:=info_parts Gv;clear k1 k2;go_step;refine wp_seq_k λK hK=>?_
    go_cut [] from 49 to 63 (λwx=>∃ B1' cb1',Hid (Zf w2 wx)/\Hid (Yo mi (Zn us (k+1) (k+1) k ko mi md mm d.unkMeta (.slice B1' (k+1) cb1') (.slice B4 k cb4)) wx)/\Hid (Fr (λj=>j=mi\/j=md\/j=ko\/(Value.slice B1 k cb1).ownBlock=some j) wq wx))
    case first =>
     go_wp2_with (first
      | (at_builtin;refine wpList_append_own_at _ rfl _ _ 99 rfl 0 178 im _ 3 6 Tryz.underlying99 him im0 im1 im2 rfl (by decide) _ k _ rfl (hr1.alloc _) ⟨wc.heap.size,0,none⟩ 1 1 (M9 u.left u.right u.weight) rfl rfl (Lv _ _ _ _) (by intro x hx;simp only[M9,List.mem_cons,List.mem_nil_iff,or_false]at hx;rcases hx with rfl|rfl|rfl<;>rfl) (by unfold maxLen;omega) Om (Nat.zero_le _) ?_;intro v' w6 hown' hgrow hnil' hat;obtain⟨B1',cb1',hv'⟩:=Zl hown';subst hv';obtain⟨S6,hH6⟩:=S5.out.rowApp 1 ((Om:1<6)) rfl hHc hgrow hown' hat;have kc6:=(S6.cell 0 ((Om:0<6)) rfl hH6).1;have c60:w6.cell? ⟨ko,0,none⟩=some (.slice B1 k cb1):=cell_of kc6 0 _ rfl;have f60:=Zi kc6 0;have H6:=Hd (Ai1 S6 (Ai1 hH6 hgrow));clear S6 kc6 hown' hgrow hat hnil' hH6)
      | fail)
     go_meet
     case rel =>
      obtain⟨S6,hH6,hgrow⟩:=H6.out
      have F7:Fr (λj=>j=mi\/j=md\/j=ko\/(Value.slice B1 k cb1).ownBlock=some j) wq (w6.setCell ⟨ko,0,none⟩ (.slice B1' (k+1) cb1')) :=
       (((HF5.out.mono (λj _ e=>by rcases e with e|e<;>simp[e])).alloc _).grown hgrow (λj e _=>.inr (.inr (.inr e)))).setCell _ _ (λ_=>.inr (.inr (.inl rfl)))
      refine⟨B1',cb1',HXQ.out.trans (S:=λ_=>False) F7 (λj hj e=>?_),?_,F7⟩
      ·have:=HH.out;have:=(S5.out.cell 0 ((Om:0<6)) rfl hHc).2.1;rcases e with e|e|e|e
       ·omega
       ·omega
       ·omega
       ·have:=(S5.out.row 1 ((Om:1<6)) rfl hHc).2.1 j e;omega
      ·have e1:Jf (us.take (k+1))=Jf (us.take k)++M9 u.left u.right u.weight:=by
        rw[List.take_succ_eq_append_getElem LK.out,HXX.out];simp[Jf]
       have:=(S6.cell 0 ((Om:0<6)) rfl hH6).2.2 0 (.slice B1' (k+1) cb1');unfold Zn;rw[e1];exact this
    case rest =>
     obtain⟨B1',cb1',HX7,S7,F7⟩:=hcut
     have m4:wc.cell? ⟨bq,4,none⟩=some (.slice Aq u.contents.length cq):=F7.out.cell m4Q.out (by
      rintro (e|e|e|e)
      ·have:bq=mi:=e;omega
      ·have:bq=md:=e;omega
      ·have:bq=ko:=e;omega
      ·have:=bown.out bq e;omega)
     clear m1 m2 m3 k0 lko lbc kc hr1 w1 w2' w3' him im0 im1 im2 hHc S5 HF5;have hHc:mi<=wc.heap.size:=by rw[<- HH.out];exact HX7.out.size
     have kc:=(S7.out.cell 0 ((Om:0<6)) rfl hHc).1;have k4:wc.cell? ⟨ko,4,none⟩=some (.slice B4 k cb4):=cell_of kc 4 _ rfl;have lko:ko<wc.heap.size:=(Gs1.1 kc).1;have lbc:bq<wc.heap.size:=lt_of_cell m4;have C4:=Qn (w:=wc.drew) (DT.Ty.ext strs HQ.out (HX7.out.drew)) q9
     have hro4:Hid (∀ j,(Value.slice B4 k cb4).ownBlock=some j->mi<=j):=by
      obtain⟨F4,⟨_,_,_,ho4,_⟩,hF4⟩:=S7.out.get 5 ((Om:5<6));exact λj e=>(hF4 j (ho4 j e)).1
     have hk1:(List.map GUnk.contents (List.take k us)).length=k:=by rw[List.length_map,List.length_take];omega
     have HK1:=Hd hk1;obtain⟨ic,hic,ic0,ic1,ic2⟩:=info_parts Gu;clear kc hk1;go_step
     go_region_law (first
      | (refine Z9 rfl _ _ 103 rfl 0 34 ic _ 1 24 Tryz.underlying103 hic ic0 ic1 ic2 rfl (by decide) (.slice B4 k cb4) k cs5 rfl (HO5.out.alloc _) ⟨w8.heap.size,0,none⟩ 1 1 [.slice Ac u.contents.length cc] rfl rfl (Z0 _ _) (by intro x hx;rw[List.mem_singleton.1 hx];rfl) (by unfold maxLen;omega) Om (Nat.zero_le _) ?_;intro v' w9 hown' hgrow hnil' hat;obtain⟨B4',cb4',hv'⟩:=Zl hown';subst hv';obtain⟨S9,hH9⟩:=UP5.out _ w9 _ hgrow hown' hat;have kc9:=(S9.cell 0 ((Om:0<6)) rfl hH9).1;have c94:w9.cell? ⟨ko,4,none⟩=some (.slice B4 k cb4):=cell_of kc9 4 _ rfl;have f94:=Zi kc9 4;have H9:=Hd (Ai1 S9 (Ai1 hH9 hgrow));clear S9 kc9 hown' hgrow hat hnil' hH9)
      | (go_simp;go_at_call 101;refine C4.mono ?_;rintro e w8 ⟨c,rfl,hc8,hx8⟩;obtain⟨Ac,cc,ec,_⟩:=id hc8;cases ec;obtain⟨cs5,ho5,up5⟩:=S7.out.rowDApp 5 ((Om:5<6)) rfl HK1.out hHc (((Fl wc).drew).then hx8) hc8;have HO5:=Hd ho5;have UP5:=Hd up5;have HX8:=Hd hx8;have k4:=hx8.cell k4 id;have lko8:=lt_of_cell k4;clear ho5 up5 hx8 hc8))
     all_goals (go_wp2_with fail;go_roundg (us.length-(k+1)))
     all_goals first
      | omega
      | skip
     all_goals
      obtain⟨S9,hH9,hgrow⟩:=H9.out
      have e1:(us.take (k+1)).map GUnk.contents=(us.take k).map GUnk.contents++[u.contents]:=by
       rw[List.take_succ_eq_append_getElem LK.out,HXX.out];simp
      have hkom:mi<=ko:=(S9.cell 0 ((Om:0<6)) rfl hH9).2.1
      have F9:Fr (λj=>mi<=j) w2 (w9.setCell ⟨ko,4,none⟩ (.slice B4' (k+1) cb4')) :=
       ((((HX7.out.mono (S':=λj=>mi<=j) (λj _ e=>e.elim)).drew.ext HX8.out).alloc _).grown hgrow (λj e _=>hro4.out j e)).setCell _ _ (λ_=>hkom)
      refine⟨k+1,.slice B1' (k+1) cb1',.slice B4' (k+1) cb4',by go_num,Om,Om,F9.mono (λj hj e=>?_),?_⟩
      ·have:=HH.out;omega
      ·have:=(S9.cell 0 ((Om:0<6)) rfl hH9).2.2 4 (.slice B4' (k+1) cb4');show Yo mi (Zn us (k+1) (k+1) (k+1) ko mi md mm d.unkMeta _ _) _;unfold Zn;rw[e1];exact this
  ·have hltz:¬ (k:Int)<us.length:=Om;have hk2:k=us.length:=Om;subst hk2;have k0:wr.cell? ⟨ko,0,none⟩=some (.slice B1 us.length cb1):=cell_of kc 0 _ rfl;have k1:wr.cell? ⟨ko,1,none⟩=some (.map (some mi)):=cell_of kc 1 _ rfl;have k2:wr.cell? ⟨ko,2,none⟩=some (.map (some md)):=cell_of kc 2 _ rfl;have k3:wr.cell? ⟨ko,3,none⟩=some (.map (some mm)):=cell_of kc 3 _ rfl;have k4:wr.cell? ⟨ko,4,none⟩=some (.slice B4 us.length cb4):=cell_of kc 4 _ rfl;have hrb:=HX.out.heap krb.out id;have r0:wr.cell? ⟨w.heap.size+1,0,none⟩=some (.slice none 0 0):=cell_of hrb 0 _ rfl;have r1:wr.cell? ⟨w.heap.size+1,1,none⟩=some (.map none):=cell_of hrb 1 _ rfl;have r2:wr.cell? ⟨w.heap.size+1,2,none⟩=some (.map none):=cell_of hrb 2 _ rfl;have r3:wr.cell? ⟨w.heap.size+1,3,none⟩=some (.map none):=cell_of hrb 3 _ rfl;have r4:wr.cell? ⟨w.heap.size+1,4,none⟩=some (.slice none 0 0):=cell_of hrb 4 _ rfl;clear kc hrb;have rf:=Zi (HX.out.heap krb.out id);obtain⟨N,hN⟩:∃ N,N=w.heap.size+1:=⟨_,rfl⟩;rw[<- hN]at r0 r1 r2 r3 r4 rf lw⊢;have HNN:=Hd hN;have hrb:Hid (wr.heap[N]?=some (.cells #[.slice none 0 0,.map none,.map none,.map none,.slice none 0 0] 105 (0,0))):=by rw[hN];exact HX.out.heap krb.out id
   clear hN;go_wp2_with fail
   obtain⟨g5,F6⟩:=Ziz (.slice B1 us.length cb1) (.map (some mi)) (.map (some md)) (.map (some mm)) (.slice B4 us.length cb4) hrb.out;generalize World.setCell (World.setCell (World.setCell (World.setCell (World.setCell _ _ _) _ _) _ _) _ _) _ _=w6 at g5 F6⊢;have z0:w6.cell? ⟨N,0,none⟩=some (.slice B1 us.length cb1):=cell_of g5 0 _ rfl;have z1:w6.cell? ⟨N,1,none⟩=some (.map (some mi)):=cell_of g5 1 _ rfl;have z2:w6.cell? ⟨N,2,none⟩=some (.map (some md)):=cell_of g5 2 _ rfl;have z3:w6.cell? ⟨N,3,none⟩=some (.map (some mm)):=cell_of g5 3 _ rfl;have z4:w6.cell? ⟨N,4,none⟩=some (.slice B4 us.length cb4):=cell_of g5 4 _ rfl;clear k0 k1 k2 k3 k4 r0 r1 r2 r3 r4 rf g5;refine bodyPost_ret (by simp[results,Tryz.results47,z0,z1,z2,z3,z4,go_sem];try rfl) rfl ?_;refine⟨ko,mi,md,mm,.slice B1 us.length cb1,.slice B4 us.length cb4,rfl,?_,?_⟩
   ·refine Fr.trans (S:=λ_=>False) (HX2.out.then HX.out) F6 (λj hj e=>?_);have:=HNN.out;omega
   ·have e1:=HU.out.2.1;have e2:=HU.out.2.2;rw[<- e1,<- e2];refine Yo.base (Yo.low ST.out (F6.mono (λj _ e=>?_))) ?_
    ·have:=HH.out;omega
    ·have:=HH.out;omega
end Go.Proofs.YtlfoalomaofejaaGreatDoor
