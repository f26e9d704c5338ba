/- What a search in the trie tell -/
import Derived.Test.YtlfoalomaofejaaGreatDoorM15
import Derived.Laws.IdiomRangeMap
import Derived.Lib.LazyBuf
set_option linter.all false
set_option maxRecDepth 100000
set_option maxHeartbeats 4000000
namespace Go.Proofs.YtlfoalomaofejaaGreatDoor
section
open Go.RowKit TR
section
variable{w w':World}{g n:Nat}{B C:F}
theorem Zhv.b(h:Zhv w g n B C){i:Nat}(hi:i<n):w.cell? ⟨g,i*2,none⟩=some (.int .i32 (B i)):=by
 obtain⟨cs,h1,_,h2⟩:=h;simp[World.cell?,h1,(h2 i hi).1]
theorem Zhv.c(h:Zhv w g n B C){i:Nat}(hi:i<n):w.cell? ⟨g,i*2+1,none⟩=some (.int .i32 (C i)):=by
 obtain⟨cs,h1,_,h2⟩:=h;simp[World.cell?,h1,(h2 i hi).2]
end
structure Told(cg:Nat)(cb:Array Value)(H:List (Nat×Nat))(g n:Nat)(B C:F)(I:Nat->World->Prop):Prop where
 enter:∀ args w,(callFunc cg args).run Tryz.prog w=.ok (.enter cg args) w
 arr:∀ k w,I k w->Zhv w g n B C
 draw:∀ k w m,I k w->I k (w.drewN m)
 call:∀ k (h:k<H.length) w,I k w->Calls Tryz.prog cg (#[.int .i64 (H[k].1:Int),.int .i64 (H[k].2:Int)]++cb) w λe w'=>e=.returned (.tuple #[])/\I (k+1) w'
def Zky(H:List (Nat×Nat))(n:Nat)(B C:F)(T:Nat->Prop)(s:ByteArray)(I:Nat->World->Prop)(i q k:Nat)(w:World):Prop :=
 ∃ ks,Sub n B C T q ks/\NoZ ks/\H.drop k=Ub ks (s.data.toList.drop i) i/\I k w/\k<=H.length/\B q<=134217728/\∀ x∈ks,x.2<=1073741824
theorem Az{n:Nat}{B C:F}{T:Nat->Prop}{q:Nat}{ks:List Key}(h:Sub n B C T q ks):∃ b:Nat,B q=(b:Int)/\1<=b/\(∀ c:UInt8,(b+c.toNat<n/\C (b+c.toNat)=(q:Int))↔∃ k∈ks,hd k=c) /\
  (∀ i,Vz ks=some i->B b = -(i:Int))/\∀ c:UInt8,c≠0->(∃ k∈ks,hd k=c)->Sub n B C T (b+c.toNat) (strip c ks):=by
 cases h with
 | mk _ _ b hT hb h1 hch hend hsub=>exact⟨b,hb,h1,hch,hend,hsub⟩
theorem L1{H:List (Nat×Nat)}{k:Nat}(h:H.drop k=[])(q:k<=H.length):k=H.length:=by
 have:=congrArg List.length h;simp at this;omega
theorem Lf{c:UInt8}{ks:List Key}{x:Key}(h:x∈strip c ks):∃ y∈ks,x.2=y.2:=by
 obtain⟨y,q,e⟩:=List.mem_filterMap.1 h;refine⟨y,q,?_⟩
 split at e
 ·cases e
 ·split at e
  ·injection e with e;rw[<- e]
  ·cases e
theorem Zbu{ks:List Key}(q:NoZ ks){x:Key}(z:x∈ks)(h:hd x=0):x.1=[]:=by
 have:=q x z;unfold hd at h
 cases A:x.1 with
 | nil=>rfl
 | cons a t =>
  rw[A]at h this;have G:a=0:=h;exact absurd (G▸List.mem_cons_self) this
theorem Znu{ks:List Key}{e m:Nat}(h:Vz ks=some e)(z:∀ x∈ks,x.2<=m):e<=m:=by
 obtain⟨x,q,rfl⟩:=Option.map_eq_some_iff.1 h;exact z x (List.mem_of_find?_eq_some q)
theorem Zcv(cg:Nat)(cb:Array Value)(g n:Nat)(B C:F)(T:Nat->Prop)(ks:List Key)(s:ByteArray)(I:Nat->World->Prop)(hI:Told cg cb (Ub ks s.data.toList 0) g n B C I)(z:Sub n B C T 0 ks)(hz:NoZ ks)(hn:n<=134217728)(ax:0<n)
  (az:B 0<=134217728) (hb:∀ x,x<n->C x<=134217728 /\ -134217728<=C x) (A:∀ x∈ks,x.2<=1073741824) (hs:s.size<=1000000) (w:World) (V:I 0 w) :
  Calls Tryz.prog 235 #[.slice (some ⟨g,0,none⟩) n n,.string s,.func (.func cg) #[] cb] w λe w'=>e=.returned (.tuple #[])/\I (Ub ks s.data.toList 0).length w':=by
 obtain⟨H,hH⟩:∃ H,H=Ub ks s.data.toList 0:=⟨_,rfl⟩;rw[<- hH]at hI⊢;have eg:=hI.enter;have HI:=Hd hI;have HB:=Hd hb;have H0:Hid (Zky H n B C T s I 0 0 0 w):=⟨ks,z,hz,by rw[hH];rfl,V,Nat.zero_le _,az,A⟩;clear hI z hz V hH hb az A;go_enter Tryz.func235,Tryz.ntmps235
 go_wp2_with fail
 go_loopw [7,15] (λqv iv wr=>∃ (i q k:Nat),i<=s.size/\iv=.int .i64 i/\qv=.int .i64 q/\q<n/\Hid (Zky H n B C T s I i q k wr)) (λ_ iv _=>s.size-(intOf iv).toNat)
 case atStart=>exact⟨0,0,0,Nat.zero_le _,rfl,rfl,ax,H0⟩
 case round =>
  clear H0;obtain⟨i,q,k,hi,rfl,rfl,a7,HS⟩:=hrel;by_cases a8:i<s.size
  ·obtain⟨Y,z,hz,hH,V,J,ar,A⟩:=HS.out;obtain⟨b,hb,bi,L,ay,M⟩:=Az z;have hA:=HI.out.arr _ _ V;have a6:i<s.data.size:=a8
   have ae:s.data.toList.drop i=s.data[i]::s.data.toList.drop (i+1):=by
    rw[List.drop_eq_getElem_cons (by rw[Array.length_toList];exact a6)];rfl
   obtain⟨c,hc⟩:∃ c,c=s.data[i]:=⟨_,rfl⟩;rw[<- hc]at ae;rw[ae]at hH;have q1:=hA.b a7;rw[hb]at q1;have bb:=c.toNat_lt;have bf:b<=134217728:=Om;have bh:s[i]=c:=hc.symm;have HC:=Hd hc;have HN:=Hd (Ai1 z (Ai1 hz (Ai1 hH (Ai1 V (Ai1 J (Ai1 L (Ai1 M A)))))));clear hc ae z hz hH V J L ay M ar hA hb A;by_cases h0:c=0
   ·have bc:((c.toNat:Int)==0)=true:=by rw[h0];rfl
    go_wp2_with fail
    have hk:k=H.length:=L1 (by rw[HN.out.2.2.1,h0];simp[Ub]) HN.out.2.2.2.2.1;exact bodyPost_ret (results_none rfl _ _ _) rfl ⟨rfl,hk▸HN.out.2.2.2.1⟩
   ·have bc:((c.toNat:Int)==0)=false:=by
     simp only[beq_eq_false_iff_ne,ne_eq];intro e;exact h0 (UInt8.toNat_inj.1 (by simpa using e))
    by_cases hk:b+c.toNat<n/\C (b+c.toNat)=(q:Int)
    ·obtain⟨U,aw⟩:=hk;obtain⟨z,hz,hH,V,J,L,M,A⟩:=HN.out;have ak:=(L c).1 ⟨U,aw⟩;have G:=M c h0 ak;have ai:=(Nx h0).2 ak;obtain⟨b2,ag,am,X,ab,_⟩:=Az G;have hA:=HI.out.arr _ _ V;have q2:=hA.c U;rw[aw]at q2;have q3:=hA.b U;rw[ag]at q3
     have be:b2<=134217728:=by
      obtain⟨x,Z⟩:=List.exists_mem_of_ne_nil _ ai;have:=(X (hd x)).2 ⟨x,Z,rfl⟩;omega
     have af:=hz.strip c
     have W:∀ x∈strip c Y,x.2<=1073741824:=λx Z=>by
      obtain⟨y,hy,e⟩:=Lf Z;rw[e];exact A y hy
     have K:H.drop k=((Vz (strip c Y)).map λe=>(e,i+1)).toList++Ub (strip c Y) (s.data.toList.drop (i+1)) (i+1):=by
      rw[hH];simp[Ub,h0,ai]
     by_cases aj:b2<n/\C b2=((b:Int)+(c.toNat:Int))
     ·obtain⟨ac,av⟩:=aj
      obtain⟨e,he⟩:=Qp.2 (by
       obtain⟨x,Z,ao⟩:=(X 0).1 ⟨by simpa using ac,by simp[av]⟩
       exact⟨x,Z,Zbu af Z ao⟩)
      have r1:=hA.c ac;rw[av]at r1;have r2:=hA.b ac;rw[ab e he]at r2;have bg:e<=1073741824:=Znu he W;rw[he]at K
      have aa:k<H.length:=by
       rcases Nat.lt_or_ge k H.length with h|h
       ·exact h
       ·rw[List.drop_eq_nil_of_le h]at K;simp at K
      have au:H[k]=(e,i+1)/\H.drop (k+1)=Ub (strip c Y) (s.data.toList.drop (i+1)) (i+1):=by
       rw[List.drop_eq_getElem_cons aa]at K;simp only[Option.map_some,Option.toList_some,List.cons_append,List.nil_append,List.cons.injEq]at K;exact K
      have al:∀ m,Calls Tryz.prog cg (#[.int .i64 (e:Int),.int .i64 ((i:Int)+1)]++cb) (wr.drewN m) λe w'=>e=.returned (.tuple #[])/\I (k+1) w':=λm=>by
       have:=HI.out.call k aa (wr.drewN m) (HI.out.draw k wr m V);rw[au.1]at this;exact this
      have bd:=Hd al;have HK:=Hd (Ai1 G (Ai1 af (Ai1 au.2 (Ai1 W (Ai1 aa ag)))));clear al z hz hH V J L M A ak G ai ag am X ab hA af W K he au HN HS;go_upto_region 7 with fail
      go_quiet (fail)
      go_wp2_with (refine (bd.out _).mono ?_;rintro ee w7 ⟨rfl,Z⟩;have HX:=Hd Z;clear Z)
      go_roundw
      case rel =>
       obtain⟨k1,k2,k3,k4,k5,k6⟩:=HK.out;exact⟨i+1,b+c.toNat,k+1,Om,by go_num,by go_num,U,_,k1,k2,k3,HX.out,k5,by rw[k6];omega,k4⟩
      case measure=>simp[intOf];omega
     ·have ad:Vz (strip c Y)=none:=by
       cases he:Vz (strip c Y) with
       | none=>rfl
       | some e =>
        exfalso;obtain⟨x,Z,ao⟩:=Qp.1 ⟨e,he⟩;have:=(X 0).2 ⟨x,Z,by simp[hd,ao]⟩;exact aj ⟨by simpa using this.1,by have:=this.2;simp at this;omega⟩
      rw[ad]at K;simp only[Option.map_none,Option.toList_none,List.nil_append]at K;have HK:=Hd (Ai1 G (Ai1 af (Ai1 K (Ai1 W (Ai1 J (Ai1 ag V))))));by_cases ac:b2<n
      ·have r1:=hA.c ac;obtain⟨aq,ap⟩:=HB.out b2 ac;obtain⟨x,Z⟩:∃ x,x=C b2:=⟨_,rfl⟩;rw[<- Z]at r1 aq ap
       have a1:(x==((b:Int)+(c.toNat:Int)))=false:=by
        rw[beq_eq_false_iff_ne,Z];exact λe=>aj ⟨ac,e⟩
       clear z hz hH V J L M A ak G ai ag am X ab hA af W K ad HN HS aj Z;go_upto_region 7 with fail
       go_quiet (fail)
       go_wp2_with fail
       go_roundw
       case rel =>
        obtain⟨k1,k2,k3,k4,k5,k6,k7⟩:=HK.out;exact⟨i+1,b+c.toNat,k,Om,by go_num,by go_num,U,_,k1,k2,k3,HI.out.draw _ _ _ k7,k5,by rw[k6];omega,k4⟩
       case measure=>simp[intOf];omega
      ·clear z hz hH V J L M A ak G ai ag am X ab hA af W K ad HN HS aj;go_upto_region 7 with fail
       go_quiet (fail)
       go_wp2_with fail
       go_roundw
       case rel =>
        obtain⟨k1,k2,k3,k4,k5,k6,k7⟩:=HK.out;exact⟨i+1,b+c.toNat,k,Om,by go_num,by go_num,U,_,k1,k2,k3,HI.out.draw _ _ _ k7,k5,by rw[k6];omega,k4⟩
       case measure=>simp[intOf];omega
    ·obtain⟨z,hz,hH,V,J,L,M,A⟩:=HN.out
     have ah:strip c Y=[]:=by
      by_cases e:strip c Y=[]
      ·exact e
      ·exact absurd ((L c).2 ((Nx h0).1 e)) hk
     have aa:k=H.length:=L1 (by rw[hH];simp[Ub,ah]) J;have HK:=Hd (Ai1 V aa);by_cases U:b+c.toNat<n
     ·have q2:=(HI.out.arr _ _ V).c U;obtain⟨aq,ap⟩:=HB.out _ U;obtain⟨x,Z⟩:∃ x,x=C (b+c.toNat):=⟨_,rfl⟩;rw[<- Z]at q2 aq ap
      have a1:(x != (q:Int))=true:=by
       rw[bne_iff_ne,Z];exact λe=>hk ⟨U,e⟩
      clear z hz hH V J L M A ah aa HN HS hk Z;go_upto_region 7 with fail
      go_quiet (fail)
      go_wp2_with fail
      go_end0
      exact⟨rfl,HK.out.2▸HI.out.draw _ _ _ HK.out.1⟩
     ·clear z hz hH V J L M A ah aa HN HS hk;go_upto_region 7 with fail
      go_quiet (fail)
      go_wp2_with fail
      go_end0
      exact⟨rfl,HK.out.2▸HI.out.draw _ _ _ HK.out.1⟩
  ·obtain⟨Y,z,hz,hH,V,J,ar,A⟩:=HS.out;have aa:k=H.length:=L1 (by rw[hH,List.drop_eq_nil_of_le (by rw[Array.length_toList];show s.size<=i;omega)];rfl) J;obtain rfl:i=s.size:=Om
   clear z hz hH ar A HS;go_wp2_with fail
   go_end0
   exact⟨rfl,aa▸V⟩
end
section
open Go.RowKit TR
structure Zm9(cg:Nat)(cb:Array Value)(L:List (Nat×Nat))(J:(Nat->Prop)->Nat->World->Prop):Prop where
 enter:∀ args w,(callFunc cg args).run Tryz.prog w=.ok (.enter cg args) w
 ext:∀ O k w w',J O k w->Zf w w'->J O k w'
 call:∀ O k (h:k<L.length) w,J O k w->Calls Tryz.prog cg (#[.int .i64 (L[k].1:Int),.int .i64 (L[k].2:Int)]++cb) w λe w'=>e=.returned (.tuple #[])/\∃ O',J O' (k+1) w'/\(∀ b,O' b->O b\/w.heap.size<=b)/\Fr O w w'
structure U9(g n mb b1 b2:Nat)(ws:List ByteArray)(cg:Nat)(cb:Array Value)(O:Nat->Prop)(w:World):Prop where
 idx:Tb w g n mb ws
 h1:w.heap[b1]?=some (.cells #[.slice (some ⟨g,0,none⟩) n n,.map (some mb)] 219 (0,0))
 h2:w.heap[b2]?=some (.cells #[.func (.func cg) #[] cb] 333 (0,0))
 no:¬ O g/\¬ O mb/\¬ O b1/\¬ O b2
theorem Tb.lt{w:World}{g n q:Nat}{ws:List ByteArray}(h:Tb w g n q ws):g<w.heap.size/\q<w.heap.size:=by
 obtain⟨⟨B,C,T,⟨cs,A,a2⟩,a3⟩,l,z,G⟩:=h;exact⟨(Gs1.1 A).1,z.lt⟩
theorem U9.ext{g n q I G:Nat}{ws:List ByteArray}{z:Nat}{A:Array Value}{O:Nat->Prop}{w w':World}(h:U9 g n q I G ws z A O w)(f:Zf w w'):U9 g n q I G ws z A O w' :=
 ⟨h.idx.keep f id id,f.heap h.h1 id,f.heap h.h2 id,h.no⟩
theorem U9.step{g n J U M:Nat}{ws:List ByteArray}{K:Nat}{L:Array Value}{O O':Nat->Prop}{w w':World}(h:U9 g n J U M ws K L O w)(f:Fr O w w')(q:∀ b,O' b->O b\/w.heap.size<=b):U9 g n J U M ws K L O' w':=by
 have X:=h.idx.lt;have W:=(Gs1.1 h.h1).1;have V:=(Gs1.1 h.h2).1;obtain⟨I,G,A,z⟩:=h.no;exact⟨h.idx.keep f I G,f.heap h.h1 A,f.heap h.h2 z,λe=>(q _ e).elim I Om,λe=>(q _ e).elim G Om,λe=>(q _ e).elim A Om,λe=>(q _ e).elim z Om⟩
theorem Zke(g n mb Z U I:Nat)(K:Array Value)(ws:List ByteArray)(L:List (Nat×Nat))(J:(Nat->Prop)->Nat->World->Prop)(hJ:Zm9 I K L J)(O:Nat->Prop)(k l:Nat)(r:Ba)(hr:r∈runs ws)(w:World)(M:J O k w)(G:U9 g n mb Z U ws I K O w)
  (hL:∀ j,j<=r.2.2->L[k+j]?=some (r.2.1+j,l)) (W:r.2.1+r.2.2<=10000) :
  Calls Tryz.prog 236 #[.int .i64 (r.2.1:Int),.int .i64 (l:Int),.pointer (some ⟨Z,0,none⟩),.pointer (some ⟨U,0,none⟩)] w λe w'=>e=.returned (.tuple #[])/\∃ O',J O' (k+r.2.2+1) w'/\U9 g n mb Z U ws I K O' w'/\(∀ b,O' b->O b\/w.heap.size<=b)/\Fr O w w':=by
 obtain⟨a,f,e⟩:=r;simp only at hL W⊢;obtain⟨l0,hm,hd⟩:=G.idx.dup
 have ab:(look l0 ((f:Nat):Int)).getD (.int .i32 0)=.int .i32 (e:Int):=by
  have:=hd.1 (a,f,e) hr;simp only at this;rw[this];by_cases h0:e=0
  ·subst h0;rfl
  ·simp[h0]
 have c1:=Qr G.h1;have c2:w.cell? ⟨U,0,none⟩=some (.func (.func I) #[] K):=by simp[World.cell?,G.h2]
 have eg:=hJ.enter;have HJ:=Hd hJ;have HM:=Hd hm;have H0:=Hd (Ai1 M (Ai1 G hL));clear hJ hm hd M G hL;go_enter Tryz.func236,Tryz.ntmps236
 go_wp2_with (first
  | (at_lookup;refine Zk rfl _ _ false rfl T9 Tryz.underlying100 Tryz.underlying21 (Rb _) rfl HM.out (f:Int) rfl ?_;simp only[Bool.false_eq_true,if_false,ab])
  | fail)
 go_loopw [7] (λv wr=>∃ j:Nat,j<=e+1/\v=.int .i64 ((f:Int)+(j:Int))/\Hid (∃ O',J O' (k+j) wr/\U9 g n mb Z U ws I K O' wr/\(∀ b,O' b->O b\/w.heap.size<=b)/\Fr O w wr)) (λv _=>(f+e+1)-(intOf v).toNat)
 case atStart=>exact⟨0,Nat.zero_le _,by simp,O,H0.out.1,H0.out.2.1,λb h=>.inl h,Fl _⟩
 case round =>
  obtain⟨j,hj,rfl,HR⟩:=hrel;by_cases af:j<e+1
  ·obtain⟨O',M,G,V,hF⟩:=HR.out;have c3:wr.cell? ⟨U,0,none⟩=some (.func (.func I) #[] K):=(by simp[World.cell?,G.h2]);have X:=H0.out.2.2 j Om;obtain⟨ac,Y⟩:=Gl.1 X;have z:=HJ.out.call O' (k+j) ac wr M;rw[Y]at z
   have A:Calls Tryz.prog I (#[.int .i64 ((f:Int)+(j:Int)),.int .i64 (l:Int)]++K) wr λe w'=>e=.returned (.tuple #[])/\∃ O',J O' (k+(j+1)) w'/\U9 g n mb Z U ws I K O' w'/\(∀ b,O' b->O b\/w.heap.size<=b)/\Fr O w w':=by
    refine Calls.mono (z) ?_;rintro ee w' ⟨rfl,O2,h1,h2,h3⟩;exact⟨rfl,O2,h1,G.step h3 h2,λb ad=>(h2 b ad).elim (V b) (λh=>.inr (Nt hF.size h)),hF.trans h3 (λq hq aa=>(V q aa).elim id Om)⟩
   have HC:=Hd A;have ae:(j:Int)<(e:Int)+1:=Om;clear M G V hF X z A Y;go_wp2_with (refine HC.out.mono ?_;rintro ee w7 ⟨rfl,hx⟩;have HX:=Hd hx;clear hx)
   go_roundw
   case rel=>exact⟨j+1,Om,by go_num,HX⟩
   case measure=>simp[intOf];omega
  ·obtain rfl:j=e+1:=Om
   go_wp2_with fail
   go_end0
   obtain⟨O',M,G,V,hF⟩:=HR.out;exact⟨rfl,O',M,G,V,hF⟩
end
section
open Go.RowKit TR
def ex(R:List Ba)(p:Nat×Nat):List (Nat×Nat):=match R.find? (λr=>decide (r.2.1=p.1)) with|some r=>(List.range' r.2.1 (r.2.2+1)).map λx=>(x,p.2)|none=>[]
def off(R:List Ba)(H:List (Nat×Nat))(m:Nat):Nat:=((H.take m).flatMap (ex R)).length
theorem Zl2(R:List Ba)(H:List (Nat×Nat)):off R H H.length=(H.flatMap (ex R)).length:=by rw[off,List.take_length]
theorem Zi8(R:List Ba)(H:List (Nat×Nat)){m:Nat}(h:m<H.length):off R H (m+1)=off R H m+(ex R H[m]).length:=by
 unfold off;rw[List.take_succ_eq_append_getElem h,List.flatMap_append,List.length_append];simp
theorem Zmi(R:List Ba)(H:List (Nat×Nat)){m:Nat}(h:m<H.length)(j:Nat)(q:j<(ex R H[m]).length):(H.flatMap (ex R))[off R H m+j]?=(ex R H[m])[j]?:=by
 have e:H.flatMap (ex R)=(H.take m).flatMap (ex R)++(ex R H[m]++(H.drop (m+1)).flatMap (ex R)):=by
  conv=>lhs;rw[<- List.take_append_drop m H,List.drop_eq_getElem_cons h]
  rw[List.flatMap_append,List.flatMap_cons]
 rw[e];unfold off;rw[List.getElem?_append_right Om,Nat.add_sub_cancel_left,List.getElem?_append_left q]
theorem Zbm:∀ (t:List UInt8) (ks:List Key) (i:Nat) (p:Nat×Nat),p∈Ub ks t i->(∃ k∈ks,k.2=p.1)/\p.2<=i+t.length
 | [],ks,i,p,h=>by simp[Ub]at h
 | c::t,ks,i,p,h=>by
  unfold Ub at h
  split at h
  ·cases h
  ·split at h
   ·cases h
   ·rcases List.mem_append.1 h with h|h
    ·cases G:Vz (strip c ks) with
     | none=>rw[G]at h;simp at h
     | some e =>
      rw[G]at h;simp at h;subst h;obtain⟨x,A,q⟩:=Option.map_eq_some_iff.1 G;obtain⟨y,z,I⟩:=Lf (List.mem_of_find?_eq_some A);exact⟨⟨y,z,I.symm.trans q⟩,by simp⟩
    ·obtain⟨⟨x,A,q⟩,hl⟩:=Zbm t _ _ p h;obtain⟨y,z,I⟩:=Lf A;exact⟨⟨y,z,I.symm.trans q⟩,by simp at hl⊢;omega⟩
def told(ws:List ByteArray)(s:ByteArray):List (Nat×Nat):=(Ub (Uq ws) s.data.toList 0).flatMap (ex (runs ws))
theorem Zj8(g n U Y:Nat)(Z:Array Value)(ws:List ByteArray)(s:ByteArray)(J:(Nat->Prop)->Nat->World->Prop)(hJ:Zm9 Y Z (told ws s) J)(O:Nat->Prop)(w:World)(hw:J O 0 w)(q:Tb w g n U ws)(hO:∀ b,O b->b<w.heap.size)(A:¬ O g/\¬ O U)
  (ho:Se ws (runs ws)) (ak:ws.length<=10000) (hz:∀ x∈ws,(0:UInt8) ∉ x.data.toList) (hs:s.size<=1000000) :
  Calls Tryz.prog 191 #[.agg #[.slice (some ⟨g,0,none⟩) n n,.map (some U)],.string s,.func (.func Y) #[] Z] w λe w'=>e=.returned (.tuple #[])/\∃ O',J O' (told ws s).length w'/\(∀ b,O' b->O b\/w.heap.size<=b)/\Fr O w w':=by
 obtain⟨⟨B,C,T,hA,ad,hn,K,af,hC⟩,ae⟩:=id q;have al:=q.lt
 have hI:Told 236 #[.pointer (some ⟨w.heap.size,0,none⟩),.pointer (some ⟨w.heap.size+1,0,none⟩)] (Ub (Uq ws) s.data.toList 0) g n B C
   (λm wr=>∃ O',J O' (off (runs ws) (Ub (Uq ws) s.data.toList 0) m) wr/\U9 g n U w.heap.size (w.heap.size+1) ws Y Z O' wr/\(∀ b,O' b->O b\/w.heap.size<=b)/\Fr O w wr):=by
  refine⟨λargs w=>Kr,?_,?_,?_⟩
  ·rintro k wr ⟨O',_,_,_,hF⟩;obtain⟨cs,a1,a2⟩:=hA;exact⟨cs,hF.heap a1 A.1,a2⟩
  ·rintro k wr m ⟨O',h1,h2,h3,hF⟩;have z:Zf wr (wr.drewN m):=(Fl _).drewN m;exact⟨O',hJ.ext _ _ _ _ h1 z,h2.ext z,h3,hF.ext z⟩
  ·rintro m hm wr ⟨O',h1,h2,h3,hF⟩;obtain⟨⟨x,z,ag⟩,hl⟩:=Zbm _ _ _ _ (List.getElem_mem hm);obtain⟨r0,ai,rfl⟩:=List.mem_map.1 z
   obtain⟨r,V⟩:∃ r,(runs ws).find? (λr=>decide (r.2.1=((Ub (Uq ws) s.data.toList 0)[m]).1))=some r:=by
    cases hf:(runs ws).find? (λr=>decide (r.2.1=((Ub (Uq ws) s.data.toList 0)[m]).1)) with
    | some r=>exact⟨r,rfl⟩
    | none =>
     have:=List.find?_eq_none.1 hf r0 ai;simp at this;exact absurd ag this
   have ah:r.2.1=((Ub (Uq ws) s.data.toList 0)[m]).1:=(by simpa using List.find?_some V);have ac:=List.mem_of_find?_eq_some V
   have X:ex (runs ws) (Ub (Uq ws) s.data.toList 0)[m]=(List.range' r.2.1 (r.2.2+1)).map λx=>(x,((Ub (Uq ws) s.data.toList 0)[m]).2):=by
    unfold ex;rw[V]
   have am:=ho.lt r ac
   have hc:=Zke g n U w.heap.size (w.heap.size+1) Y Z ws (told ws s) J hJ O' (off (runs ws) (Ub (Uq ws) s.data.toList 0) m) ((Ub (Uq ws) s.data.toList 0)[m]).2 r ac wr h1 h2 (λj hj=>by
    have:=Zmi (runs ws) (Ub (Uq ws) s.data.toList 0) hm j (by rw[X];simp;omega);unfold told;rw[this,X]
    simp[hj,Nat.lt_succ_of_le hj]) Om
   rw[ah]at hc;refine Calls.mono hc ?_;rintro e w' ⟨rfl,O2,k1,k2,k3,k4⟩;refine⟨rfl,O2,?_,k2,λb hb=>(k3 b hb).elim (h3 b) (λh=>.inr (Nt hF.size h)),hF.trans k4 (λj hj aj=>(h3 j aj).elim id Om)⟩;rw[Zi8 _ _ hm,X];simpa [Nat.add_assoc] using k1
 have aa:NoZ (Uq ws):=by
  intro x z;obtain⟨r,V,rfl⟩:=List.mem_map.1 z;exact hz _ ((ho.mem _).2 ⟨r,V,rfl⟩)
 have M:∀ x∈Uq ws,x.2<=1073741824:=by
  intro x z;obtain⟨r,V,rfl⟩:=List.mem_map.1 z;have:=ho.lt r V;simp only;omega
 have L:=λW (h:_)=>Zcv _ _ g n B C T (Uq ws) s _ hI K aa hn ad af hC M hs W h
 have hE:∀ I G,Zf w ((w.alloc I).alloc G):=λI G=>((Fl _).alloc _).alloc _
 have ab:∀ I G,I=Obj.cells #[.slice (some ⟨g,0,none⟩) n n,.map (some U)] 219->G=Obj.cells #[.func (.func Y) #[] Z] 333->∃ O',J O' (off (runs ws) (Ub (Uq ws) s.data.toList 0) 0) ((w.alloc I).alloc G)/\U9 g n U w.heap.size (w.heap.size+1) ws Y Z O' ((w.alloc I).alloc G)/\(∀ b,O' b->O b\/w.heap.size<=b)/\Fr O w ((w.alloc I).alloc G):=by
  intro I G e1 e2;refine⟨O,hJ.ext _ _ _ _ hw (hE _ _),⟨q.keep (hE _ _) id id,?_,?_,A.1,A.2,λe=>by have:=hO _ e;omega,λe=>by have:=hO _ e;omega⟩,λb h=>.inl h,((Fl _).alloc _).alloc _⟩
  ·rw[alloc_old _ _ (by rw[Za];omega),alloc_at,e1]
  ·rw[alloc_at' _ _ (by rw[Za]),e2]
 have HR:=Hd (Ai1 L ab);clear L ab hI hJ hw q hO A ho hz hA K af hC ae aa M hE;go_enter Tryz.func191,Tryz.ntmps191
 go_wp2_with (first|(go_at_call 235;refine (HR.out.1 _ (HR.out.2 _ _ rfl rfl)).mono ?_;rintro e w7 ⟨rfl,z⟩;have HX:=Hd z;clear z)|fail)
 go_end0
 obtain⟨O',h1,_,h3,h4⟩:=HX.out;rw[Zl2]at h1;exact⟨rfl,O',h1,h3,h4⟩
end
section
open TR
def fnd(ks:List Key)(u:List UInt8):Option Nat:=(ks.find? λk=>decide (k.1=u)).map (·.2)
theorem Zmh(ks:List Key):fnd ks []=Vz ks:=by
 unfold fnd Vz;congr 2;funext k;cases k.1<;>rfl
theorem Oe(c:UInt8)(u:List UInt8):∀ ks:List Key,fnd (strip c ks) u=fnd ks (c::u)
 | []=>rfl
 | (s,e)::ks=>by
  have q:=Oe c u ks;unfold fnd at q⊢;rw[Uj]
  match s with
  | [] =>
   simp only[List.nil_append];rw[q,List.find?_cons];simp
  | a::t =>
   simp only;by_cases h:a=c
   ·subst h;rw[if_pos rfl,List.singleton_append,List.find?_cons,List.find?_cons];by_cases h2:t=u
    ·simp[h2]
    ·simp only[List.cons.injEq,true_and,h2,decide_false];exact q
   ·rw[if_neg h,List.nil_append,q,List.find?_cons];simp[h]
theorem Zj1{ks:List Key}{u:List UInt8}(h:∀ k∈ks,k.1≠u):fnd ks u=none:=by
 unfold fnd;rw[List.find?_eq_none.2 (λk q=>by simpa using h k q)];rfl
theorem Ze6:∀ (t:List UInt8) (ks:List Key) (i:Nat),NoZ ks->Ub ks t i=(List.range t.length).flatMap λj=>((fnd ks (t.take (j+1))).map λe=>(e,i+j+1)).toList
 | [],ks,i,_=>by simp[Ub]
 | c::t,ks,i,hz=>by
  unfold Ub;by_cases q:c=0
  ·rw[if_pos q];symm;rw[List.flatMap_eq_nil_iff];intro j _;rw[Zj1 (λk z e=>?_)]
   ·rfl
   ·have:=hz k z;rw[e,q]at this;simp at this
  ·rw[if_neg q];by_cases h:strip c ks=[]
   ·rw[if_pos h];symm;rw[List.flatMap_eq_nil_iff];intro j _
    have:fnd ks ((c::t).take (j+1))=none:=by
     rw[List.take_succ_cons,<- Oe,h];rfl
    rw[this];rfl
   ·rw[if_neg h,Ze6 t (strip c ks) (i+1) (hz.strip c),List.length_cons,List.range_succ_eq_map,List.flatMap_cons,List.flatMap_map];congr 1
    ·rw[List.take_succ_cons,List.take_zero,<- Oe,Zmh]
    ·congr 1;funext j;rw[List.take_succ_cons,<- Oe];congr 2;funext e;simp only[Prod.mk.injEq,true_and];omega
theorem Zj0{ws:List ByteArray}{R:List Ba}(u:List UInt8):fnd (R.map λr=>(r.1.data.toList,r.2.1)) u=(R.find? λr=>decide (r.1.data.toList=u)).map (·.2.1):=by
 unfold fnd;rw[List.find?_map,Option.map_map];rfl
def Ij(ws:List ByteArray)(s:ByteArray):List (Nat×Nat):=(List.range s.size).flatMap λj=>(Iz ws (s.extract 0 (j+1))).map λx=>(x,j+1)
theorem extract_toList(s:ByteArray)(n:Nat):(s.extract 0 n).data.toList=s.data.toList.take n:=by
 rw[ByteArray.data_extract,Array.toList_extract];simp
theorem Zei{ws:List ByteArray}(G:Se ws (runs ws))(Z:∀ x∈ws,(0:UInt8) ∉ x.data.toList)(s:ByteArray):told ws s=Ij ws s:=by
 have K:NoZ (Uq ws):=by
  intro x hx;obtain⟨r,U,rfl⟩:=List.mem_map.1 hx;exact Z _ ((G.mem _).2 ⟨r,U,rfl⟩)
 unfold told Ij;rw[Ze6 _ _ _ K,List.flatMap_assoc];have hl:s.data.toList.length=s.size:=by rw[Array.length_toList];rfl
 rw[hl];congr 1;funext j;unfold Uq;rw[Zj0 (ws:=ws),<- extract_toList];generalize s.extract 0 (j+1)=p
 cases X:(runs ws).find? λr=>decide (r.1.data.toList=p.data.toList) with
 | none =>
  have V:Iz ws p=[]:=by
   refine List.filter_eq_nil_iff.2 λi hi=>?_
   have I:i<ws.length:=(by simpa using hi);simp only[Ge I,Option.getD_some,decide_eq_true_eq];intro q;obtain⟨r,U,M⟩:=(G.mem p).1 (q▸List.getElem_mem I);have:=List.find?_eq_none.1 X r U;simp[M]at this
  rw[V];rfl
 | some r =>
  have A:=List.mem_of_find?_eq_some X;have L:r.1=p:=L3 (by simpa using List.find?_some X)
  obtain⟨z,h⟩:∃ z,(runs ws).find? (λq=>decide (q.2.1=r.2.1))=some z:=by
   cases W:(runs ws).find? (λq=>decide (q.2.1=r.2.1)) with
   | some x=>exact⟨x,rfl⟩
   | none =>
    have:=List.find?_eq_none.1 W r A;simp at this
  have J:=List.mem_of_find?_eq_some h;have Y:z.2.1=r.2.1:=by simpa using List.find?_some h
  have hk:z.1=r.1:=by
   have a1:=G.at A;have a2:=G.at J;rw[Y,a1]at a2;injection a2 with a2
   exact a2.symm
  have hi:=G.idx z J;rw[hk,L]at hi;simp only[Option.map_some,Option.toList_some,List.flatMap_cons,List.flatMap_nil,List.append_nil];unfold ex;simp only[h];rw[hi];simp
end
section
open Go.RowKit TR Go.Shelf
theorem index_none(A:Option Addr)(kc:Nat)(w:World) :
  Calls Tryz.prog 184 #[.slice A 0 kc] w λe w'=>Zf w w'/\∃ g n mb,e=.returned (.tuple #[.agg #[.slice (some ⟨g,0,none⟩) n n,.map (some mb)],.nilIface])/\w.heap.size<=g/\w.heap.size<=mb/\Tb w' g n mb []:=by
 obtain⟨is,ae,ac,ab,aa⟩:=info_parts V5;obtain⟨ii,af,ai,ah,ag⟩:=info_parts Jm
 have V:∀ W:World,(Instr.makeSlice 34 (.int .i64 0) (.int .i64 0)).run Tryz.prog W=.ok (.slice (some ⟨W.heap.size,0,none⟩) 0 0) (W.alloc (.cells (madeCells #[.string ⟨#[]⟩] 0) 9)):=λW=>by
  have:=run_make (P:=Tryz.prog) W 34 9 is _ Tryz.underlying34 ae ac .i64 .i64 0 0 Om Om (by rw[aa];omega) Om;rw[ab]at this;simpa [Value.cells] using this
 have U:∀ W:World,(Instr.makeSlice 23 (.int .i64 0) (.int .i64 0)).run Tryz.prog W=.ok (.slice (some ⟨W.heap.size,0,none⟩) 0 0) (W.alloc (.cells (madeCells #[.int .i64 0] 0) 3)):=λW=>by
  have:=run_make (P:=Tryz.prog) W 23 3 ii _ Tryz.underlying23 af ai .i64 .i64 0 0 Om Om (by rw[ag];omega) Om;rw[ah]at this;simpa [Value.cells] using this
 have ad:=@run_makeMap Tryz.prog;go_enter Tryz.func184,Tryz.ntmps184
 go_wp2_with (first|(go_at_call 229;refine (AnyO.slices_IsSorted_string_none sortedS A kc _).mono ?_;rintro e w2 ⟨rfl,rfl⟩)|fail)
 go_upto_region 7 with fail
 generalize G:World.alloc _ _=M;have hE:Zf w M:=by rw[<- G];exact ((((((Fe w).alloc _).alloc _).alloc _).alloc _).alloc _).alloc _
 have J:M.heap.size=w.heap.size+6:=by rw[<- G];simp only[Za]
 have b0:M.heap[w.heap.size]?=some (.cells #[.slice none 0 0,.map none] 219 (0,0)):=by
  rw[<- G,alloc_old _ _ (by simp only[Za];omega),alloc_old _ _ (by simp only[Za];omega),alloc_old _ _ (by simp only[Za];omega),alloc_old _ _ (by simp only[Za];omega),alloc_old _ _ (by simp only[Za];omega),alloc_at]
 have b1:Zq Tm (w.heap.size+1) [] M:=by
  refine⟨#[],0,?_,rfl,MapKept.stamped_empty 0⟩;rw[<- G,alloc_old _ _ (by simp only[Za];omega),alloc_old _ _ (by simp only[Za];omega),alloc_old _ _ (by simp only[Za];omega),alloc_old _ _ (by simp only[Za];omega),alloc_at' _ _ (by simp only[Za])]
 have b2:M.heap[w.heap.size+1+1]?=some (.cells #[.slice none 0 0,.map (some (w.heap.size+1))] 219 (0,0)):=by
  rw[<- G,alloc_old _ _ (by simp only[Za];omega),alloc_old _ _ (by simp only[Za];omega),alloc_old _ _ (by simp only[Za];omega),alloc_at' _ _ (by simp only[Za])]
 have L:=Hd (Ai1 hE (Ai1 b0 (Ai1 b1 (Ai1 b2 J))));clear G hE b0 b1 b2 V U ad J;obtain⟨N,Z⟩:∃ N,N=w.heap.size:=⟨_,rfl⟩;rw[<- Z]at L⊢;have HN:=Hd Z;clear Z;go_wp2_with fail
 refine wp_loop_rounds 1 ?_;rw[rounds_succ]
 go_wp2_with (first
  | (go_at_call 230;refine (Zd3 _ _ _ _ _).mono ?_;rintro e X ⟨z,g,n,rfl,K,I⟩;have q:=z.heap L.out.2.2.2.1 id;have h:=z.heap L.out.2.1 id;have al:=Of q;have ak:=Qr q;have f4:=λo=>Jn q o;have ao:=Of h;have am:=Qr h;have f2:=λo=>Jn h o;have H5:=Hd (Ai1 z (Ai1 K (Ai1 I (Ai1 q h))));clear z K I q h)
  | fail)
 obtain⟨z,K,I,q,h⟩:=H5.out
 have k1:(X.setCell ⟨N+1+1,0,none⟩ (.slice (some ⟨g,0,none⟩) n n)).heap[N]?=some (.cells #[.slice none 0 0,.map none] 219 (0,0)):=by
  rw[Below.heap_setCell _ _ _ _ (by simp only;omega)];exact h
 have Y:=Ex (x':=.slice (some ⟨g,0,none⟩) n n) (y':=.map (some (N+1))) k1
 have F6:Fr (λj=>j=N\/j=N+1+1) X (((X.setCell ⟨N+1+1,0,none⟩ (.slice (some ⟨g,0,none⟩) n n)).setCell ⟨N,0,none⟩ (.slice (some ⟨g,0,none⟩) n n)).setCell ⟨N,1,none⟩ (.map (some (N+1)))) :=
  (((Fl _).setCell _ _ (λ_=>.inr rfl)).setCell _ _ (λ_=>.inl rfl)).setCell _ _ (λ_=>.inl rfl)
 generalize World.setCell (World.setCell (World.setCell _ _ _) _ _) _ _=w6 at Y F6⊢;have z0:=Of Y;have z1:=Qr Y;clear al ak f4 ao am f2 q h k1 Y;refine bodyPost_ret (by simp[results,Tryz.results184,z0,z1,go_sem];try rfl) rfl ?_;have aj:Zf w X:=L.out.1.ext z;have J:=L.out.2.2.2.2;have Z:=HN.out;refine⟨aj.trans F6 (λj hj e=>Om),g,n,N+1,rfl,Om,Om,(Tb.keep ⟨?_,[],L.out.2.2.1.keep z id,λr hr=>by simp[runs]at hr,λi _=>rfl⟩ F6 Om Om)⟩;exact I
end
section
open Go.RowKit TR
theorem run_len_map{κ:Type}{kv:κ->Value}{P:Program}{w:World}{r:Nat}{l:List (κ×Value)}{mty z J:TypeId}(A:P.underlying mty=some (.map z J))(h:Zq kv r l w)(ty:TypeId):(Builtin.len_ #[mty] ty #[.map (some r)]).run P w=.ok (.int .i64 (l.length:Int)) w:=by
 obtain⟨K,q,I,G,_⟩:=h;have:K.size=l.length:=by have:=congrArg List.length G;simpa using this
 simp[Builtin.len_,run_underlying A,MapKept.run_getObj_map I,goInt,this]
abbrev Yi:ByteArray->Value:=Value.string
def Wb:List ByteArray->ByteArray->Option Nat
 | [],_=>none
 | a::l,s=>if a=s then some 0 else (Wb l s).map (· + 1)
def Sm(n:Nat):List ByteArray->List (ByteArray×Value)
 | []=>[]
 | a::l=>(a,.int .u16 ((n:Int)+1))::Sm (n+1) l
abbrev Dw(ns:List ByteArray):List (ByteArray×Value):=Sm 0 ns
theorem N6(n:Nat)(ns:List ByteArray):(Sm n ns).length=ns.length:=by
 induction ns generalizing n with
 | nil=>rfl
 | cons a l ih=>simp[Sm,ih]
theorem Zdd(ns:List ByteArray)(s:ByteArray):∀ n,look (Sm n ns) s=(Wb ns s).map λi=>.int .u16 (((n+i:Nat):Int)+1):=by
 induction ns with
 | nil=>intro n;rfl
 | cons a l ih =>
  intro n;simp only[Sm,look,Wb];by_cases h:a=s
  ·simp[h]
  ·rw[if_neg h,if_neg h,ih (n+1),Option.map_map];congr 1;funext i;simp only[Function.comp_def,Value.int.injEq,true_and];omega
theorem Ziz{κ β:Type}[DecidableEq κ](l:List (κ×β))(k:κ)(v:β)(h:look l k=none):put l k v=l++[(k,v)]:=by
 induction l with
 | nil=>rfl
 | cons p l ih =>
  obtain⟨a,x⟩:=p;simp only[look]at h
  split at h
  ·cases h
  ·rename_i hne;simp only[put,if_neg hne,ih h,List.cons_append]
theorem Ik(s:ByteArray):∀ (ns:List ByteArray) (n:Nat),Sm n (ns++[s])=Sm n ns++[(s,.int .u16 (((n+ns.length:Nat):Int)+1))]
 | [],n=>by simp[Sm]
 | a::l,n=>by
  simp only[List.cons_append,Sm,Ik s l (n+1),List.length_cons];rw[(Om:n+1+l.length=n+(l.length+1))]
def Xo(ns:List ByteArray)(s:ByteArray):List ByteArray:=if (Wb ns s).isSome then ns else ns++[s]
theorem Il(s:ByteArray):∀ ns:List ByteArray,Wb ns s=none->Wb (ns++[s]) s=some ns.length
 | [],_=>by simp[Wb]
 | a::l,h=>by
  simp only[Wb]at h
  split at h
  ·cases h
  ·rename_i hne;simp only[List.cons_append,Wb,if_neg hne];rw[Il s l (by simpa using h)];simp
theorem Zaq(s:ByteArray):∀ (ns:List ByteArray) (i:Nat),Wb ns s=some i->i<ns.length/\ns[i]?=some s
 | [],i,h=>by cases h
 | a::l,i,h=>by
  simp only[Wb]at h
  split at h
  ·rename_i e;injection h with h
   subst h e;simp
  ·obtain⟨j,q,rfl⟩:=Option.map_eq_some_iff.1 h;have:=Zaq s l j q;simpa using this
theorem Zeb(w:World):(zeroValue 229).run Tryz.prog w=.ok (.int .u16 0) w:=Kr
theorem Zlx(r:Nat)(ns:List ByteArray)(s:ByteArray)(w:World)(h:Zq Yi r (Dw ns) w)(K:ns.length<=60000) :
  Calls Tryz.prog 228 #[.map (some r),.string s] w λe w'=>∃ i,e=.returned (.int .u16 ((i:Nat)+1:Int))/\Wb (Xo ns s) s=some i/\Zq Yi r (Dw (Xo ns s)) w'/\Fr (λk=>k=r) w w':=by
 have hl:=run_len_map (P:=Tryz.prog) (mty:=325) Tryz.underlying325 h;rw[N6]at hl;have z:=Zdd ns s 0;have G:=Hd h;clear h
 cases hp:Wb ns s with
 | some i =>
  rw[hp]at z;have hi:=(Zaq s ns i hp).1;have q:Xo ns s=ns:=by unfold Xo;rw[hp];rfl
  simp only[Option.map_some,Nat.zero_add]at z;have A:=Hd (Ai1 hp q);clear hp q;go_enter Tryz.func228,Tryz.ntmps228
  go_wp2_with (first|(at_lookup;refine Zk rfl _ _ true rfl Vv Tryz.underlying325 Tryz.underlying9 (Zeb _) rfl G.out s rfl ?_;simp only[if_true,z,Option.getD_some,Option.isSome_some])|fail)
  first|go_ret|go_ret2
  exact⟨i,rfl,by rw[A.out.2];exact A.out.1,by rw[A.out.2];exact G.out,Fl _⟩
 | none =>
  rw[hp]at z;have q:Xo ns s=ns++[s]:=by unfold Xo;rw[hp];rfl
  simp only[Option.map_none]at z;have A:=Hd (Ai1 hp (Ai1 q z));clear hp q;go_enter Tryz.func228,Tryz.ntmps228
  go_wp2_with (first
   | (at_lookup;refine Zk rfl _ _ true rfl Vv Tryz.underlying325 Tryz.underlying9 (Zeb _) rfl G.out s rfl ?_;simp only[if_true,z,Option.getD_none,Option.isSome_none])
   | (at_mapUpdate;refine Yd rfl _ _ _ rfl Vv Tryz.underlying325 Tryz.underlying9 rfl G.out s (.int .u16 ((ns.length:Int)+1)) rfl rfl ?_;intro L I J M)
   | fail)
  first|go_ret|go_ret2
  obtain⟨h1,h2,h3⟩:=A.out;refine⟨ns.length,rfl,by rw[h2];exact Il s ns h1,?_,J⟩;rw[h2];have e:=Ik s ns 0;rw[Nat.zero_add]at e;show Zq Yi r (Sm 0 (ns++[s])) L;rw[e,<- Ziz _ _ _ h3];exact I
end
section
open Go.RowKit TR
theorem N7{s:ByteArray}{i:Nat}:∀ (ns l:List ByteArray),Wb ns s=some i->Wb (ns++l) s=some i
 | [],l,h=>by cases h
 | a::t,l,h=>by
  simp only[Wb,List.cons_append]at h⊢
  split at h
  ·rw[if_pos ‹_›];exact h
  ·rw[if_neg ‹_›];obtain⟨j,q,rfl⟩:=Option.map_eq_some_iff.1 h;rw[N7 t l q];rfl
theorem Zgp{ns:List ByteArray}{s t:ByteArray}{i:Nat}(h:Wb ns s=some i):Wb (Xo ns t) s=some i:=by
 unfold Xo
 split
 ·exact h
 ·exact N7 ns [t] h
theorem Zb8(ns:List ByteArray)(s:ByteArray):(Xo ns s).length<=ns.length+1:=by
 unfold Xo
 split
 ·omega
 ·simp
abbrev Wh(ns pos:List ByteArray):List ByteArray:=pos.foldl Xo ns
theorem Zca(ns pos:List ByteArray)(s:ByteArray):Wh ns (pos++[s])=Xo (Wh ns pos) s:=by simp[Wh]
theorem Hk(pos ns:List ByteArray):(Wh ns pos).length<=ns.length+pos.length:=by
 induction pos generalizing ns with
 | nil=>simp
 | cons a l ih =>
  have h1:=ih (Xo ns a);have h2:=Zb8 ns a;simp only[Wh,List.foldl_cons,List.length_cons]at h1⊢;omega
theorem Zg3:(Tryz.prog.info? 229).map (λi=>(i.zero,i.size,i.bytes))=some (some (.int .u16 0),1,2):=Kr
theorem Zc1(r:Nat)(ns pos:List ByteArray)(A:Option Addr)(c:Nat)(w:World)(h:Zq Yi r (Dw ns) w)(hA:∀ j (h:j<pos.length),∃ b o,A=some ⟨b,o,none⟩/\b≠r/\w.cell? ⟨b,o+j,none⟩=some (.string pos[j]))(ag:ns.length+pos.length<=60000) :
  Calls Tryz.prog 182 #[.map (some r),.slice A pos.length c] w λe w'=>∃ g f,e=.returned (.slice (some ⟨g,0,none⟩) pos.length pos.length)/\w.heap.size<=g/\w'.rowIs g 229 pos.length f /\
   (∀ j (h:j<pos.length),∃ i,Wb (Wh ns pos) pos[j]=some i/\f j=.int .u16 ((i:Nat)+1:Int))/\Zq Yi r (Dw (Wh ns pos)) w'/\Fr (λk=>k=r) w w':=by
 obtain⟨ip,X,ab,U,aa⟩:=info_parts Zg3
 have ac:∀ W:World,(Instr.makeSlice 227 (.int .i64 0) (.int .i64 (pos.length:Int))).run Tryz.prog W=.ok (.slice (some ⟨W.heap.size,0,none⟩) 0 pos.length) (W.alloc (.cells (madeCells #[.int .u16 0] pos.length) 229)):=λW=>by
  have:=run_make (P:=Tryz.prog) W 227 229 ip _ Tryz.underlying227 X ab .i64 .i64 0 pos.length Om Om (by rw[aa];omega) Om;rw[U]at this;simpa [Value.cells] using this
 have ah:=h.lt;have HA:=Hd hA;have HM:=Hd h;clear hA h;go_enter Tryz.func182,Tryz.ntmps182
 go_wp2_with fail
 have R0:=World.rowIs_made w (.int .u16 0) pos.length 229;have M0:=HM.out.alloc (.cells (madeCells #[.int .u16 0] pos.length) 229);have F0:Fr (λk=>k=r) w (w.alloc (.cells (madeCells #[.int .u16 0] pos.length) 229)):=(Fl _).alloc _;generalize World.alloc _ _=wm at R0 M0 F0⊢;have H0:Hid (wm.rowIs w.heap.size 229 pos.length (λ_=>.int .u16 0)/\Zq Yi r (Dw ns) wm/\Fr (λk=>k=r) w wm):=⟨R0,M0,F0⟩;clear R0 M0 F0 ac
 go_loopw [5,14] (λsv v wr=>∃ k:Nat,k<=pos.length/\v=.int .i64 k/\sv=.slice (some ⟨w.heap.size,0,none⟩) k pos.length/\Hid (∃ f,wr.rowIs w.heap.size 229 pos.length f/\(∀ j (h:j<pos.length),j<k->∃ i,Wb (Wh ns (pos.take k)) pos[j]=some i/\f j=.int .u16 ((i:Nat)+1:Int)) /\
  Zq Yi r (Dw (Wh ns (pos.take k))) wr/\Fr (λk=>k=r) w wr/\w.heap.size<wr.heap.size)) (λ_ v _=>pos.length-(intOf v).toNat)
 case atStart=>exact⟨0,Nat.zero_le _,rfl,rfl,_,H0.out.1,λj _ h=>Om,H0.out.2.1,H0.out.2.2,H0.out.1.lt⟩
 case round =>
  obtain⟨k,hk,rfl,rfl,HI⟩:=hrel;by_cases z:k<pos.length
  ·obtain⟨f,Z,G,hM,hF,hS⟩:=HI.out;obtain⟨b,o,rfl,hbr,hc⟩:=HA.out k z;have ad:=hF.cell hc hbr;have ae:=Hk (pos.take k) ns;rw[List.length_take]at ae;have q:=Zlx r (Wh ns (pos.take k)) pos[k] wr hM Om;obtain⟨x,I⟩:∃ x,x=pos[k]:=⟨_,rfl⟩;rw[<- I]at ad q;have HX:=Hd (Ai1 I (Ai1 Z (Ai1 G (Ai1 hF hS))));have HC:=Hd q;clear I Z G hM hF hS q hc HI
   go_wp2_with (first
    | (go_at_call 228;refine HC.out.mono ?_;rintro e w2 ⟨i,rfl,J⟩;have H2:=Hd J;clear J)
    | (at_builtin;refine Ui rfl _ _ 227 rfl Tryz.underlying227 X U rfl ((Wa HX.out.2.1 H2.out.2.2 (by show ¬ _=_;omega)).alloc _) z ⟨w2.heap.size,0,none⟩ 1 _ rfl (cell_one_new _ _ _) rfl ?_;intro w3 M Y L;have aj:=Hd L;clear L)
    | fail)
   go_roundw
   case rel =>
    obtain⟨I,Z,G,hF,hS⟩:=HX.out;obtain⟨h1,h2,h3⟩:=H2.out
    have K:Wh ns (pos.take (k+1))=Xo (Wh ns (pos.take k)) x:=by
     rw[List.take_succ_eq_append_getElem z,Zca,I]
    have af:Fr (λk=>k=r) w w3:=((hF.then h3).alloc _).trans Y (λj V e=>Om);refine⟨k+1,Om,by go_num,rfl,_,M,λj V ai=>?_,?_,af,Nat.lt_of_lt_of_le M.lt (Nl _)⟩
    ·rw[K];by_cases e:j=k
     ·subst e;exact⟨i,by rw[<- I];exact h1,by simp⟩
     ·obtain⟨i',a1,a2⟩:=G j V Om;exact⟨i',Zgp a1,by rw[if_neg e];exact a2⟩
    ·rw[K];exact (h2.alloc _).keep Y (by show ¬ _=_;omega)
   case measure=>simp[intOf];omega
  ·obtain rfl:k=pos.length:=Om
   go_wp2_with fail
   first|go_ret|go_ret2
   obtain⟨f,Z,G,hM,hF,hS⟩:=HI.out;rw[List.take_length]at G hM;exact⟨w.heap.size,f,rfl,Nl _,Z,λj V=>G j V V,hM,hF⟩
end
section
open Go.RowKit
def KT{α:Type}(P:Program)(s:Sem α):Prop:=∀ w a w',s.run P w=.ok a w'->w'.tape=w.tape
section
variable{α β:Type}{P:Program}
theorem KT.bind{s:Sem α}{f:α->Sem β}(h:KT P s)(k:∀ a,KT P (f a)):KT P (s >>= f):=by
 intro w a w' e;rw[Sem.run_bind]at e
 cases q:s.run P w with
 | ok b w1 =>
  rw[q]at e;exact (k b w1 a w' e).trans (h w b w1 q)
 | halt x w1=>rw[q]at e;cases e
theorem KT.pure(a:α):KT P (Pure.pure a:Sem α):=by
 intro w b w' e;rw[Sem.run_pure]at e;cases e;rfl
theorem KT.getObj(r:Nat):KT P (Go.getObj r):=by
 intro w a w' e;simp only[Go.getObj,Sem.run]at e
 split at e<;>cases e
 rfl
theorem KT.setObj(r:Nat)(o:Obj):KT P (Go.setObj r o):=by
 intro w a w' e;simp only[Go.setObj,Sem.run]at e
 split at e<;>cases e
 rfl
theorem KT.choose(q:Question):KT P (Go.choose q):=by
 intro w a w' e;rw[run_choose_drew]at e
 split at e<;>cases e<;>rfl
theorem KT.halt(h:Halt):KT P (Sem.halt h:Sem α):=by
 intro w a w' e;simp only[Sem.run]at e;cases e
theorem KT.next(v:Value)(b:Bool)(ty:TypeId):KT P (Instr.next v b ty):=by
 unfold Instr.next
 repeat' first
  | exact KT.pure _
  | exact KT.getObj _
  | exact KT.setObj _ _
  | exact KT.choose _
  | exact KT.halt _
  | (refine KT.bind ?_ (λ_=>?_))
  | split
end
end
section
open Go.RowKit TR
theorem Zja{P:Program}(w:World)(ty:TypeId)(I q M:Nat)(z:Array Nat)(L:Array MapEntry)(A:Nat)(Z:w.heap[I]?=some (.map L A))(J:∀ x∈L.toList,x.born<q)(V:q<=M) :
  ((leftOf L z).size=0/\(Instr.next (.pointer (some ⟨w.heap.size,0,none⟩)) false ty).run P (w.alloc (.mapIter (some I) q z M))=.ok (.tuple #[.bool false]) (w.alloc (.mapIter (some I) q z M))) \/
  ∃ e∈(leftOf L z).toList,∃ G:World,Zf w G/\G.heap=w.heap/\(Instr.next (.pointer (some ⟨w.heap.size,0,none⟩)) false ty).run P (w.alloc (.mapIter (some I) q z M))=.ok (.tuple #[.bool true,e.key,e.val]) (G.alloc (.mapIter (some I) q (z.push e.born) A)):=by
 rcases run_next_map (P:=P) w ty I q M z L A Z J V with h|⟨e,Y,G,K,W⟩
 ·exact .inl h
 ·have U:=KT.next (P:=P) _ _ _ _ _ _ W;have X:G.tape=w.tape:=U;exact .inr ⟨e,Y,G,⟨K.2.1,X,K.2.2,by rw[K.1];exact Nl _,λk _ _=>by rw[K.1]⟩,K.1,W⟩
theorem G8:∀ (ns:List ByteArray) (n:Nat) (p:ByteArray×Value),p∈Sm n ns->∃ j,ns[j]?=some p.1/\p.2=.int .u16 (((n+j:Nat):Int)+1)
 | [],n,p,h=>by cases h
 | a::l,n,p,h=>by
  rcases List.mem_cons.1 h with rfl|h
  ·exact⟨0,rfl,rfl⟩
  ·obtain⟨j,h1,h2⟩:=G8 l (n+1) p h;exact⟨j+1,by simpa using h1,by rw[h2];congr 3;omega⟩
theorem G9:∀ (ns:List ByteArray) (n j:Nat) (s:ByteArray),ns[j]?=some s->(s,Value.int .u16 (((n+j:Nat):Int)+1))∈Sm n ns
 | [],n,j,s,h=>by simp at h
 | a::l,n,0,s,h=>by
  simp at h;subst h;exact List.mem_cons_self
 | a::l,n,j+1,s,h=>by
  have:=G9 l (n+1) j s (by simpa using h);rw[(Om:n+1+j=n+(j+1))]at this;exact List.mem_cons_of_mem _ this
theorem Lh{z:Array MapEntry}{q:Nat}(h:MapKept.Stamped z q){a b:MapEntry}(I:a∈z.toList)(G:b∈z.toList)(e:a.born=b.born):a=b:=by
 obtain⟨i,hi,rfl⟩:=List.getElem_of_mem I;obtain⟨j,A,rfl⟩:=List.getElem_of_mem G;have:=(List.getElem_inj (h₀:=by simpa using hi) (h₁:=by simpa using A) h.2.1).1 (by simpa using e);subst this;rfl
theorem Zap(r:Nat)(ns:List ByteArray)(w:World)(h:Zq Yi r (Dw ns) w)(aw:ns.length<=60000) :
  Calls Tryz.prog 183 #[.map (some r)] w λe w'=>∃ g f,e=.returned (.slice (some ⟨g,0,none⟩) (ns.length+1) (ns.length+1))/\w.heap.size<=g/\w'.rowIs g 9 (ns.length+1) f/\f 0=.string ⟨#[]⟩/\(∀ (j:Nat) (s:ByteArray),ns[j]?=some s->f (j+1)=.string s)/\Zf w w':=by
 have hl:=run_len_map (P:=Tryz.prog) (mty:=325) Tryz.underlying325 h;rw[N6]at hl;have aq:=run_make_row' (P:=Tryz.prog) 34 9 _ 16 Tryz.underlying34 V5 rfl .i64 .i64 (ns.length+1) Om Om;have ap:∀ W:World,(Instr.makeSlice 34 (.int .i64 ((ns.length:Int)+1)) (.int .i64 ((ns.length:Int)+1))).run Tryz.prog W=.ok (.slice (some ⟨W.heap.size,0,none⟩) (ns.length+1) (ns.length+1)) (W.alloc (.cells (madeCells #[.string ⟨#[]⟩] (ns.length+1)) 9)):=aq;clear aq;obtain⟨U,z,hb,V,ak⟩:=h;have ar:r<w.heap.size:=(Gs1.1 hb).1
 have ad:∀ e∈U.toList,∃ (j:Nat) (s:ByteArray),ns[j]?=some s/\e.key=.string s/\e.val=.int .u16 ((j:Int)+1):=by
  intro e hm;have h1:(e.key,e.val)∈U.toList.map (λe=>(e.key,e.val)):=List.mem_map.2 ⟨e,hm,rfl⟩;rw[V]at h1;obtain⟨p,hp,L⟩:=List.mem_map.1 h1;obtain⟨j,h2,h3⟩:=G8 ns 0 p hp;simp only[Prod.mk.injEq]at L;exact⟨j,p.1,h2,L.1.symm,by rw[<- L.2,h3,Nat.zero_add]⟩
 have ae:∀ (j:Nat) (s:ByteArray),ns[j]?=some s->∃ e∈U.toList,e.key=.string s/\e.val=.int .u16 ((j:Int)+1):=by
  intro j s hj;have h1:=G9 ns 0 j s hj
  have h2:(Yi s,Value.int .u16 (((0+j:Nat):Int)+1))∈U.toList.map (λe=>(e.key,e.val)):=by
   rw[V];exact List.mem_map.2 ⟨_,h1,rfl⟩
  obtain⟨e,hm,L⟩:=List.mem_map.1 h2;simp only[Prod.mk.injEq,Nat.zero_add]at L;exact⟨e,hm,L.1,L.2⟩
 have HE:=Hd (Ai1 ad (Ai1 ae (Ai1 ak hb)));have R0:=World.rowIs_made w (.string ⟨#[]⟩) (ns.length+1) 9;have F0:Zf w (w.alloc (.cells (madeCells #[.string ⟨#[]⟩] (ns.length+1)) 9)):=(Fl _).alloc _;have S0:(w.alloc (.cells (madeCells #[.string ⟨#[]⟩] (ns.length+1)) 9)).heap.size=w.heap.size+1:=Za _ _;have am:=run_range_map (P:=Tryz.prog) (w.alloc (.cells (madeCells #[.string ⟨#[]⟩] (ns.length+1)) 9)) 325 _ _ r U z Tryz.underlying325 (by rw[alloc_old _ _ ar];exact hb);rw[S0]at am;clear ad ae hb V ak;go_enter Tryz.func183,Tryz.ntmps183
 go_wp2_with fail
 generalize World.alloc w _=wm at R0 F0 S0⊢
 have H0:Hid (∃ f,wm.rowIs w.heap.size 9 (ns.length+1) f/\f 0=.string ⟨#[]⟩/\(∀ e∈U.toList,(#[]:Array Nat).contains e.born=true->∀ j:Nat,e.val=.int .u16 ((j:Int)+1)->f (j+1)=e.key)/\Zf w wm/\wm.heap.size=w.heap.size+1) :=
  ⟨_,R0,rfl,λe _ h=>by simp at h,F0,S0⟩
 clear R0 F0 S0 am hl ap
 go_loopw [] (λwr=>∃ (X:World) (A:Array Nat),wr=X.alloc (.mapIter (some r) z A z)/\Hid (∃ f,X.rowIs w.heap.size 9 (ns.length+1) f/\f 0=.string ⟨#[]⟩/\(∀ e∈U.toList,A.contains e.born=true->∀ j:Nat,e.val=.int .u16 ((j:Int)+1)->f (j+1)=e.key)/\Zf w X/\X.heap.size=w.heap.size+1))
  (λwr=>(leftOf U (wr.iterSeen (w.heap.size+1))).size)
 case atStart=>exact⟨wm,#[],rfl,H0⟩
 case round =>
  clear H0;obtain⟨X,A,rfl,HI⟩:=hrel;obtain⟨f,hR,K,hf,hF,hS⟩:=HI.out;have ac:X.heap[r]?=some (.map U z):=hF.heap HE.out.2.2.2 id;have aj:=Zja (P:=Tryz.prog) X 0 r z z A U z ac HE.out.2.2.1.1 (Nl _);rw[hS]at aj;rcases aj with ⟨h0,J⟩|⟨e,V,X2,ah,ag,J⟩
  ·have ao:∀ ty,(Instr.next (.pointer (some ⟨w.heap.size+1,0,none⟩)) false ty).run Tryz.prog (X.alloc (.mapIter (some r) z A z))=_:=λ_=>J
   have HZ:=Hd (Ai1 hR (Ai1 K (Ai1 hf (Ai1 hF h0))));clear hR K hf hF h0 ac J HI hS;go_wp2_with fail
   first|go_ret|go_ret2
   obtain⟨hR,K,hf,hF,h0⟩:=HZ.out;refine⟨w.heap.size,f,rfl,Nl _,hR.alloc _,K,λj s hj=>?_,hF.alloc _⟩;obtain⟨e,hm,h1,h2⟩:=HE.out.2.1 j s hj;rw[<- h1];refine hf e hm ?_ j h2
   cases hc:A.contains e.born with
   | true=>rfl
   | false =>
    have:e∈leftOf U A:=Array.mem_filter.2 ⟨by simpa using hm,by rw[hc];rfl⟩;rw[Array.eq_empty_of_size_eq_zero h0]at this;simp at this
  ·obtain⟨af,Z⟩:=mem_left V;obtain⟨j,s,hj,I,G⟩:=HE.out.1 e af
   have ax:j<ns.length:=by
    rcases Nat.lt_or_ge j ns.length with q|q
    ·exact q
    ·rw[List.getElem?_eq_none q]at hj;cases hj
   have ao:∀ ty,(Instr.next (.pointer (some ⟨w.heap.size+1,0,none⟩)) false ty).run Tryz.prog (X.alloc (.mapIter (some r) z A z))=_:=λ_=>J
   have aa:X2.heap.size=w.heap.size+1:=(by rw[ag,hS]);have au:=run_entry_map (P:=Tryz.prog) X2 r z A U z e (by rw[ag];exact ac) af HE.out.2.2.1.2.1;rw[aa,I,G]at au;rw[I,G]at ao;have M:X2.rowIs w.heap.size 9 (ns.length+1) f:=Wa hR ah id;have c1:=(M.alloc (.mapIter (some r) z (A.push e.born) z)).cell (i:=j+1) Om;have f1:=(M.alloc (.mapIter (some r) z (A.push e.born) z)).frozen (j+1);have HZ:=Hd (Ai1 M (Ai1 K (Ai1 hf (Ai1 (hF.ext ah) (Ai1 aa (Ai1 hS (Ai1 V (Ai1 I (Ai1 G Z)))))))));clear hR K hf hF ac J HI hS aa ah ag V Z af I G M hj;go_wp2_with fail
   obtain⟨M,K,hf,hF,aa,hS,V,I,G,Z⟩:=HZ.out;have al:(X2.alloc (.mapIter (some r) z (A.push e.born) z)).setCell ⟨w.heap.size,j+1,none⟩ (.string s)=(X2.setCell ⟨w.heap.size,j+1,none⟩ (.string s)).alloc (.mapIter (some r) z (A.push e.born) z):=World.setCell_alloc_past _ _ _ _ Om;have ai:(X2.setCell ⟨w.heap.size,j+1,none⟩ (.string s)).heap.size=w.heap.size+1:=(by simp[World.setCell,aa]);rw[al]
   go_roundw
   case rel =>
    refine⟨_,_,rfl,_,M.set (j+1) (.string s),by simpa using K,λe' ab hc j' Y=>?_,hF.setCell _ _ (λh=>absurd h (Nat.lt_irrefl _)),ai⟩;by_cases ej:j'=j
    ·subst ej;simp only[if_true];by_cases av:e'.born=e.born
     ·have:e'=e:=Lh HE.out.2.2.1 ab (mem_left V).1 av;rw[this,I]
     ·obtain⟨j2,s2,h1,h2,h3⟩:=HE.out.1 e' ab;obtain⟨j3,s3,k1,k2,k3⟩:=HE.out.1 e (mem_left V).1;rw[Y]at h3;rw[G]at k3;injection h3 with _ h3
      injection k3 with _ k3
      have:j2=j3:=Om;subst this;rw[h1]at k1;injection k1 with k1
      rw[h2,k1,<- k2,I]
    ·rw[if_neg Om];refine hf e' ab ?_ j' Y;rw[contains_push]at hc
     cases hb:A.contains e'.born with
     | true=>rfl
     | false =>
      rw[hb]at hc;simp at hc;have:e'=e:=Lh HE.out.2.2.1 ab (mem_left V).1 hc;subst this;rw[G]at Y;injection Y with _ Y
      exact absurd Om ej
   case measure =>
    rw[<- ai,World.iterSeen_alloc,ai,<- hS,World.iterSeen_alloc];exact left_shrinks U A e V
end
section
open Go.RowKit TR
theorem Hh:∃ i,Tryz.prog.info? 9=some i/\∃ z:Value,i.zero=some z/\i.size=1/\i.bytes=16/\z.cells.size=1:=by
 have h:(Tryz.prog.info? 9).map (λi=>(i.zero.map (λz=>z.cells.size),i.size,i.bytes))=some (some 1,1,16):=Kr
 cases hi:Tryz.prog.info? 9 with
 | none=>rw[hi]at h;cases h
 | some i =>
  rw[hi]at h;simp only[Option.map_some,Option.some.injEq,Prod.mk.injEq]at h;obtain⟨h1,h2,h3⟩:=h
  cases q:i.zero with
  | none=>rw[q]at h1;cases h1
  | some z =>
   rw[q]at h1;exact⟨i,rfl,z,q,h2,h3,by simpa using h1⟩
theorem Zhj(A:Option Addr)(n c:Nat)(h:List Value)(w:World)(hl:h.length=n*1)(hA:A=none->n=0/\c=0)(V:∀ a,A=some a->∀ j u,h[j]?=some u->w.cell? (a.add j)=some u)(h1:∀ u∈h,u.oneCell'=true)(hn:n<=2147483647) :
  Calls Tryz.prog 101 #[.slice A n c] w λe w'=>∃ v,e=.returned v/\w'.ownsRow w.heap.size 9 1 v n h/\Zf w w'/\(v=.slice none 0 0↔A=none):=by
 obtain⟨Z,U,z,hz,hs,hb,M⟩:=Hh;have ac:∀ (W:World) (B:Option Addr) (l k:Nat),(binOp .eql 34 (.slice B l k) (.slice none 0 0)).run Tryz.prog W=.ok (.bool B.isNone) W:=λW B l k=>Go.run_eql_slice_nil W _ _ B l k Tryz.underlying34
 cases A with
 | none =>
  obtain⟨rfl,rfl⟩:=hA rfl;have K:h=[]:=List.eq_nil_of_length_eq_zero (by simpa using hl);subst K;clear hl hA V h1;go_enter Tryz.func101,Tryz.ntmps101
  go_wp2_with fail
  first|go_ret|go_ret2
  exact⟨_,rfl,World.ownsRow_nil _ _ _ _,Fl _,by simp⟩
 | some a =>
  have L:=V a rfl;have X:=Hd (Ai1 L h1);clear hA V L h1;go_enter Tryz.func101,Tryz.ntmps101
  go_wp2_with (first
   | (at_builtin;refine wpList_append_own_at _ rfl _ _ 34 rfl w.heap.size 9 Z z 1 16 Tryz.underlying34 U hz hs hb M (by decide) _ 0 [] rfl (World.ownsRow_made w #[] 0 (Nl _) (by unfold maxLen;omega) (by simp)) a n c h rfl hl (λj u hu=>((Fe w).alloc _).cell (X.out.1 j u hu) id) X.out.2 (by unfold maxLen;omega) Om (by simp) ?_;intro Y w1 G J I ad)
   | fail)
  first|go_ret|go_ret2
  rw[Nat.zero_add,List.nil_append]at G;refine⟨Y,rfl,G,((Fe w).alloc _).grown J (λk hk aa=>?_),?_⟩
  ·have ab:k=w.heap.size:=by
    have:some w.heap.size=some k:=hk;injection this with this
    exact this.symm
   omega
  ·constructor
   ·intro q;have:=(I.1 q).1;cases this
   ·intro q;cases q
theorem Je:∃ i,Tryz.prog.info? 53=some i/\∃ z:Value,i.zero=some z/\i.size=6/\i.bytes=88/\z.cells.size=6:=by
 have h:(Tryz.prog.info? 53).map (λi=>(i.zero.map (λz=>z.cells.size),i.size,i.bytes))=some (some 6,6,88):=Kr
 cases hi:Tryz.prog.info? 53 with
 | none=>rw[hi]at h;cases h
 | some i =>
  rw[hi]at h;simp only[Option.map_some,Option.some.injEq,Prod.mk.injEq]at h;obtain⟨h1,h2,h3⟩:=h
  cases q:i.zero with
  | none=>rw[q]at h1;cases h1
  | some z =>
   rw[q]at h1;exact⟨i,rfl,z,q,h2,h3,by simpa using h1⟩
theorem Zdx(A:Option Addr)(n c:Nat)(h:List Value)(w:World)(hl:h.length=n*6)(hA:A=none->n=0/\c=0)(V:∀ a,A=some a->∀ j u,h[j]?=some u->w.cell? (a.add j)=some u)(h1:∀ u∈h,u.oneCell'=true)(hn:n<=2147483647) :
  Calls Tryz.prog 178 #[.slice A n c] w λe w'=>∃ v,e=.returned v/\w'.ownsRow w.heap.size 53 6 v n h/\Zf w w'/\(v=.slice none 0 0↔A=none):=by
 obtain⟨Z,U,z,hz,hs,hb,M⟩:=Je;have ac:∀ (W:World) (B:Option Addr) (l k:Nat),(binOp .eql 22 (.slice B l k) (.slice none 0 0)).run Tryz.prog W=.ok (.bool B.isNone) W:=λW B l k=>Go.run_eql_slice_nil W _ _ B l k Tryz.underlying22
 cases A with
 | none =>
  obtain⟨rfl,rfl⟩:=hA rfl;have K:h=[]:=List.eq_nil_of_length_eq_zero (by simpa using hl);subst K;clear hl hA V h1;go_enter Tryz.func178,Tryz.ntmps178
  go_wp2_with fail
  first|go_ret|go_ret2
  exact⟨_,rfl,World.ownsRow_nil _ _ _ _,Fl _,by simp⟩
 | some a =>
  have L:=V a rfl;have X:=Hd (Ai1 L h1);clear hA V L h1;go_enter Tryz.func178,Tryz.ntmps178
  go_wp2_with (first
   | (at_builtin;refine wpList_append_own_at _ rfl _ _ 22 rfl w.heap.size 53 Z z 6 88 Tryz.underlying22 U hz hs hb M (by decide) _ 0 [] rfl (World.ownsRow_made w #[] 0 (Nl _) (by unfold maxLen;omega) (by simp)) a n c h rfl hl (λj u hu=>((Fe w).alloc _).cell (X.out.1 j u hu) id) X.out.2 (by unfold maxLen;omega) Om (by simp) ?_;intro Y w1 G J I ad)
   | fail)
  first|go_ret|go_ret2
  rw[Nat.zero_add,List.nil_append]at G;refine⟨Y,rfl,G,((Fe w).alloc _).grown J (λk hk aa=>?_),?_⟩
  ·have ab:k=w.heap.size:=by
    have:some w.heap.size=some k:=hk;injection this with this
    exact this.symm
   omega
  ·constructor
   ·intro q;have:=(I.1 q).1;cases this
   ·intro q;cases q
theorem Qy:∃ i,Tryz.prog.info? 76=some i/\∃ z:Value,i.zero=some z/\i.size=2/\i.bytes=24/\z.cells.size=2:=by
 have h:(Tryz.prog.info? 76).map (λi=>(i.zero.map (λz=>z.cells.size),i.size,i.bytes))=some (some 2,2,24):=Kr
 cases hi:Tryz.prog.info? 76 with
 | none=>rw[hi]at h;cases h
 | some i =>
  rw[hi]at h;simp only[Option.map_some,Option.some.injEq,Prod.mk.injEq]at h;obtain⟨h1,h2,h3⟩:=h
  cases q:i.zero with
  | none=>rw[q]at h1;cases h1
  | some z =>
   rw[q]at h1;exact⟨i,rfl,z,q,h2,h3,by simpa using h1⟩
theorem Zdy(A:Option Addr)(n c:Nat)(h:List Value)(w:World)(hl:h.length=n*2)(hA:A=none->n=0/\c=0)(V:∀ a,A=some a->∀ j u,h[j]?=some u->w.cell? (a.add j)=some u)(h1:∀ u∈h,u.oneCell'=true)(hn:n<=2147483647) :
  Calls Tryz.prog 58 #[.slice A n c] w λe w'=>∃ v,e=.returned v/\w'.ownsRow w.heap.size 76 2 v n h/\Zf w w'/\(v=.slice none 0 0↔A=none):=by
 obtain⟨Z,U,z,hz,hs,hb,M⟩:=Qy;have ac:∀ (W:World) (B:Option Addr) (l k:Nat),(binOp .eql 27 (.slice B l k) (.slice none 0 0)).run Tryz.prog W=.ok (.bool B.isNone) W:=λW B l k=>Go.run_eql_slice_nil W _ _ B l k Tryz.underlying27
 cases A with
 | none =>
  obtain⟨rfl,rfl⟩:=hA rfl;have K:h=[]:=List.eq_nil_of_length_eq_zero (by simpa using hl);subst K;clear hl hA V h1;go_enter Tryz.func58,Tryz.ntmps58
  go_wp2_with fail
  first|go_ret|go_ret2
  exact⟨_,rfl,World.ownsRow_nil _ _ _ _,Fl _,by simp⟩
 | some a =>
  have L:=V a rfl;have X:=Hd (Ai1 L h1);clear hA V L h1;go_enter Tryz.func58,Tryz.ntmps58
  go_wp2_with (first
   | (at_builtin;refine wpList_append_own_at _ rfl _ _ 27 rfl w.heap.size 76 Z z 2 24 Tryz.underlying27 U hz hs hb M (by decide) _ 0 [] rfl (World.ownsRow_made w #[] 0 (Nl _) (by unfold maxLen;omega) (by simp)) a n c h rfl hl (λj u hu=>((Fe w).alloc _).cell (X.out.1 j u hu) id) X.out.2 (by unfold maxLen;omega) Om (by simp) ?_;intro Y w1 G J I ad)
   | fail)
  first|go_ret|go_ret2
  rw[Nat.zero_add,List.nil_append]at G;refine⟨Y,rfl,G,((Fe w).alloc _).grown J (λk hk aa=>?_),?_⟩
  ·have ab:k=w.heap.size:=by
    have:some w.heap.size=some k:=hk;injection this with this
    exact this.symm
   omega
  ·constructor
   ·intro q;have:=(I.1 q).1;cases this
   ·intro q;cases q
theorem Hg:∃ i,Tryz.prog.info? 36=some i/\∃ z:Value,i.zero=some z/\i.size=5/\i.bytes=56/\z.cells.size=5:=by
 have h:(Tryz.prog.info? 36).map (λi=>(i.zero.map (λz=>z.cells.size),i.size,i.bytes))=some (some 5,5,56):=Kr
 cases hi:Tryz.prog.info? 36 with
 | none=>rw[hi]at h;cases h
 | some i =>
  rw[hi]at h;simp only[Option.map_some,Option.some.injEq,Prod.mk.injEq]at h;obtain⟨h1,h2,h3⟩:=h
  cases q:i.zero with
  | none=>rw[q]at h1;cases h1
  | some z =>
   rw[q]at h1;exact⟨i,rfl,z,q,h2,h3,by simpa using h1⟩
theorem Zhi(A:Option Addr)(n c:Nat)(h:List Value)(w:World)(hl:h.length=n*5)(hA:A=none->n=0/\c=0)(V:∀ a,A=some a->∀ j u,h[j]?=some u->w.cell? (a.add j)=some u)(h1:∀ u∈h,u.oneCell'=true)(hn:n<=2147483647) :
  Calls Tryz.prog 97 #[.slice A n c] w λe w'=>∃ v,e=.returned v/\w'.ownsRow w.heap.size 36 5 v n h/\Zf w w'/\(v=.slice none 0 0↔A=none):=by
 obtain⟨Z,U,z,hz,hs,hb,M⟩:=Hg;have ac:∀ (W:World) (B:Option Addr) (l k:Nat),(binOp .eql 26 (.slice B l k) (.slice none 0 0)).run Tryz.prog W=.ok (.bool B.isNone) W:=λW B l k=>Go.run_eql_slice_nil W _ _ B l k Tryz.underlying26
 cases A with
 | none =>
  obtain⟨rfl,rfl⟩:=hA rfl;have K:h=[]:=List.eq_nil_of_length_eq_zero (by simpa using hl);subst K;clear hl hA V h1;go_enter Tryz.func97,Tryz.ntmps97
  go_wp2_with fail
  first|go_ret|go_ret2
  exact⟨_,rfl,World.ownsRow_nil _ _ _ _,Fl _,by simp⟩
 | some a =>
  have L:=V a rfl;have X:=Hd (Ai1 L h1);clear hA V L h1;go_enter Tryz.func97,Tryz.ntmps97
  go_wp2_with (first
   | (at_builtin;refine wpList_append_own_at _ rfl _ _ 26 rfl w.heap.size 36 Z z 5 56 Tryz.underlying26 U hz hs hb M (by decide) _ 0 [] rfl (World.ownsRow_made w #[] 0 (Nl _) (by unfold maxLen;omega) (by simp)) a n c h rfl hl (λj u hu=>((Fe w).alloc _).cell (X.out.1 j u hu) id) X.out.2 (by unfold maxLen;omega) Om (by simp) ?_;intro Y w1 G J I ad)
   | fail)
  first|go_ret|go_ret2
  rw[Nat.zero_add,List.nil_append]at G;refine⟨Y,rfl,G,((Fe w).alloc _).grown J (λk hk aa=>?_),?_⟩
  ·have ab:k=w.heap.size:=by
    have:some w.heap.size=some k:=hk;injection this with this
    exact this.symm
   omega
  ·constructor
   ·intro q;have:=(I.1 q).1;cases this
   ·intro q;cases q
end
section
open Go.RowKit TR
abbrev Yy:=ByteArray×Int
def Xj(ms:List Yy):List (ByteArray×Value):=ms.foldl (λl m=>put l m.1 (.int .i8 m.2)) []
theorem Po(ms:List Yy)(m:Yy):Xj (ms++[m])=put (Xj ms) m.1 (.int .i8 m.2):=by simp[Xj]
theorem Lr(ms:List Yy)(A:Option Addr)(c:Nat)(w:World)(hA:∀ j (h:j<ms.length),∃ b o,A=some ⟨b,o,none⟩/\w.cell? ⟨b,o+j*2,none⟩=some (.string ms[j].1)/\w.cell? ⟨b,o+j*2+1,none⟩=some (.int .i64 ms[j].2))(K:∀ m∈ms,0<=m.2/\m.2<=100)(Y:ms.length<=100000) :
  Calls Tryz.prog 100 #[.slice A ms.length c] w λe w'=>e=.returned (.map (some w.heap.size))/\Zq Yi w.heap.size (Xj ms) w'/\Zf w w':=by
 have ab:=@run_makeMap Tryz.prog;have HA:=Hd (Ai1 hA K);clear hA K;go_enter Tryz.func100,Tryz.ntmps100
 go_wp2_with fail
 go_loopw [9] (λv wr=>∃ k:Nat,k<=ms.length/\v=.int .i64 k/\Hid (Zq Yi w.heap.size (Xj (ms.take k)) wr/\Zf w wr)) (λv _=>ms.length-(intOf v).toNat)
 case atStart=>exact⟨0,Nat.zero_le _,rfl,Zq.made _ _,(Fl _).alloc _⟩
 case round =>
  obtain⟨k,hk,rfl,X⟩:=hrel;by_cases q:k<ms.length
  ·obtain⟨L,hF⟩:=X.out;obtain⟨b,o,rfl,G,z⟩:=HA.out.1 k q;obtain⟨J,I⟩:=HA.out.2 _ (List.getElem_mem q);obtain⟨m,U⟩:∃ m,m=ms[k]:=⟨_,rfl⟩;rw[<- U]at G z J I;obtain⟨nm,W⟩:=m;have d1:=hF.cell G id;have d2:=hF.cell z id;simp only at d1 d2 J I;have Z:=Hd (Ai1 L (Ai1 hF U));clear L hF U G z X
   go_wp2_with (first
    | (at_mapUpdate;refine Yd rfl _ _ _ rfl Vv Tryz.underlying102 Tryz.underlying9 rfl (Z.out.1.alloc _) nm (.int .i8 W) rfl rfl ?_;intro w2 M V aa)
    | fail)
   go_roundw
   case rel =>
    obtain⟨h1,h2,h3⟩:=Z.out;refine⟨k+1,Om,by go_num,?_,(h2.alloc _).trans V (λj hj e=>absurd e (Nat.ne_of_lt hj))⟩;rw[List.take_succ_eq_append_getElem q,Po,<- h3];exact M
   case measure=>simp[intOf];omega
  ·obtain rfl:k=ms.length:=Om
   go_wp2_with fail
   first|go_ret|go_ret2
   obtain⟨L,hF⟩:=X.out;rw[List.take_length]at L;exact⟨rfl,L,hF⟩
end
section
open Go.RowKit TR
theorem Zgi(n:Int)(w:World):Calls Tryz.prog 56 #[.int .i64 n] w λe w'=>e=.returned (.bool (decide (-32768<=n/\n<=32767)))/\w'=w:=by
 by_cases h1:-32768<=n
 ·by_cases h2:n<=32767
  ·go_enter Tryz.func56,Tryz.ntmps56
   go_wp2
   first|go_ret|go_ret2
   exact⟨by simp[h1,h2],rfl⟩
  ·go_enter Tryz.func56,Tryz.ntmps56
   go_wp2
   first|go_ret|go_ret2
   exact⟨by simp[h2],rfl⟩
 ·go_enter Tryz.func56,Tryz.ntmps56
  go_wp2
  first|go_ret|go_ret2
  have hd:(decide (-32768<=n)&&decide (n<=32767))=false:=by
   rw[Bool.and_eq_false_iff];exact .inl (decide_eq_false Om)
  exact⟨by rw[hd];rfl,rfl⟩
theorem Zbk(g n c:Nat)(f:Nat->Bool)(w:World)(I:∀ j,j<n->w.cell? ⟨g,j,none⟩=some (.bool (f j)))(L:n<=100000) :
  Calls Tryz.prog 112 #[.slice (some ⟨g,0,none⟩) n c,.bool false] w λe w'=>(∃ i:Int,e=.returned (.int .i64 i)/\(0<=i↔∃ j,j<n/\f j=false))/\w'=w:=by
 have K:=Hd I;clear I;go_enter Tryz.func112,Tryz.ntmps112
 go_wp2_with fail
 go_loop [8] (λv=>∃ k:Nat,k<=n/\v=.int .i64 k/\Hid (∀ j,j<k->f j=true)) (λv=>n-(intOf v).toNat)
 case atStart=>exact⟨0,Nat.zero_le _,rfl,λj h=>Om⟩
 case round =>
  obtain⟨k,M,rfl,J⟩:=hrel;by_cases z:k<n
  ·have A:=K.out k z
   cases q:f k with
   | false =>
    rw[q]at A;have G:=Hd q;clear q
    go_wp2
    first|go_ret|go_ret2
    exact⟨⟨_,rfl,λ_=>⟨k,z,G.out⟩,λ_=>Om⟩,rfl⟩
   | true =>
    rw[q]at A;have G:=Hd q;clear q
    go_wp2
    go_round
    case rel =>
     refine⟨k+1,Om,by go_num,λj h=>?_⟩;by_cases e:j=k
     ·subst e;exact G.out
     ·exact J.out j Om
    case measure=>simp[intOf];omega
  ·obtain rfl:k=n:=Om
   go_wp2
   first|go_ret|go_ret2
   exact⟨⟨_,rfl,λh=>Om,λ⟨j,h1,h2⟩=>by rw[J.out j h1]at h2;cases h2⟩,rfl⟩
theorem He(g n c:Nat)(f:Nat->Bool)(w:World)(q:∀ j,j<n->w.cell? ⟨g,j,none⟩=some (.bool (f j)))(z:n<=100000) :
  Calls Tryz.prog 59 #[.slice (some ⟨g,0,none⟩) n c,.bool false] w λe w'=>(∃ b,e=.returned (.bool b)/\(b=true↔∃ j,j<n/\f j=false))/\w'=w:=by
 have h:=Zbk g n c f w q z;clear q;go_enter Tryz.func59,Tryz.ntmps59
 go_wp2_with (first|(go_at_call 112;refine h.mono ?_;rintro e G ⟨⟨i,rfl,hi⟩,rfl⟩;have A:=Hd hi;clear hi)|fail)
 all_goals first|go_ret|go_ret2
 all_goals exact⟨⟨_,rfl,by rw[<- A.out];simp⟩,rfl⟩
end
section
open Go.RowKit DT
def Ta(H U:Nat)(l:List Q2)(w:World):Prop :=
 U<=w.heap.size/\∃ q:Nat->Nat->Prop,(∀ i (h:i<l.length),l[i].P (q i) w)/\(∀ i j,i<l.length->j<l.length->i≠j->∀ b,q i b->¬ q j b)/\(∀ i,i<l.length->∀ b,q i b->H<=b/\b<U)
theorem Yr.up{H:Nat}{l:List Q2}{w:World}(h:Yr H l w):Ta H w.heap.size l w:=⟨Nl _,h⟩
theorem Ta.keep{H U:Nat}{l:List Q2}{S:Nat->Prop}{w w':World}(h:Ta H U l w)(f:Fr S w w')(z:∀ b,H<=b->b<U->¬ S b):Ta H U l w':=by
 obtain⟨A,G,h1,h2,h3⟩:=h;exact⟨Nt A f.size,G,λi hi=>(l[i]).st (h1 i hi) f.size (λb hF q=>f.block b q (z b (h3 i hi b hF).1 (h3 i hi b hF).2)),h2,h3⟩
theorem Ta.get{H U:Nat}{l:List Q2}{w:World}(h:Ta H U l w)(i:Nat)(hi:i<l.length):∃ F,l[i].P F w/\∀ b,F b->H<=b/\b<U:=by
 obtain⟨_,q,h1,_,h3⟩:=h;exact⟨q i,h1 i hi,h3 i hi⟩
theorem Ta.upd0{H U:Nat}{l:List Q2}{w:World}(h:Ta H U l w)(i:Nat)(hi:i<l.length) :
  ∃ F,l[i].P F w/\(∀ b,F b->H<=b/\b<U)/\∀ (w':World) (A:Q2),Fr F w w'->A.P F w'->Ta H U (l.set i A) w':=by
 obtain⟨M,K,h1,h2,h3⟩:=h;refine⟨K i,h1 i hi,h3 i hi,λw' A I hA=>⟨Nt M I.size,K,λk z=>?_,λk j z J=>?_,λk z=>?_⟩⟩
 ·rw[List.length_set]at z;by_cases e:k=i
  ·subst e;simp only[List.getElem_set_self];exact hA
  ·rw[List.getElem_set_ne (λq=>e q.symm)];exact (l[k]).st (h1 k z) I.size (λb L G=>I.block b G (h2 k i z hi e b L))
 ·rw[List.length_set]at z J;exact h2 k j z J
 ·rw[List.length_set]at z;exact h3 k z
theorem Ta.upd{H U:Nat}{l:List Q2}{w:World}(h:Ta H U l w)(i:Nat)(hi:i<l.length) :
  ∃ F,l[i].P F w/\(∀ b,F b->H<=b/\b<U)/\∀ (w':World) (A:Q2) (L:Nat->Prop),Fr F w w'->A.P L w'->(∀ b,L b->F b\/U<=b)->(∀ b,L b->b<w'.heap.size)->H<=U->Yr H (l.set i A) w':=by
 obtain⟨Y,W,h1,h2,h3⟩:=h;refine⟨W i,h1 i hi,h3 i hi,λw' A L V hA hF I X=>⟨λk=>if k=i then L else W k,λk G=>?_,λk j G M J b z=>?_,λk G b z=>?_⟩⟩
 ·rw[List.length_set]at G;by_cases e:k=i
  ·subst e;simp only[List.getElem_set_self,if_true];exact hA
  ·simp only[if_neg e];rw[List.getElem_set_ne (λq=>e q.symm)];exact (l[k]).st (h1 k G) V.size (λb z I=>V.block b I (h2 k i G hi e b z))
 ·rw[List.length_set]at G M;by_cases e:k=i
  ·rw[if_pos e]at z;have K:j≠i:=λq=>J (e.trans q.symm)
   simp only[if_neg K];rcases hF b z with q|q
   ·exact h2 i j hi M (λq=>K q.symm) b q
   ·intro r;have:=(h3 j M b r).2;omega
  ·rw[if_neg e]at z;by_cases K:j=i
   ·simp only[if_pos K];intro r;rcases hF b r with q|q
    ·exact h2 k i G hi e b z q
    ·have:=(h3 k G b z).2;omega
   ·simp only[if_neg K];exact h2 k j G M J b z
 ·rw[List.length_set]at G;have:=V.size;by_cases e:k=i
  ·rw[if_pos e]at z;rcases hF b z with q|q
   ·exact⟨(h3 i hi b q).1,I b z⟩
   ·exact⟨Om,I b z⟩
  ·rw[if_neg e]at z;have:=(h3 k G b z).2;exact⟨(h3 k G b z).1,Om⟩
theorem Ta.rowDApp{H U:Nat}{l:List Q2}{α:Type}{d:Ty α}{T:TypeId}{v c:Value}{xs:List α}{x:α}{w:World}{n:Nat}(h:Ta H U l w)(i:Nat)(hi:i<l.length)(e:l[i]=Go.Proofs.YtlfoalomaofejaaGreatDoor.rowD d T v xs)(W:xs.length=n)(hH:H<=U)(hr:d.R w (λj=>U<=j) x [c]) :
  ∃ cs:List Value,w.ownsRow 0 T 1 v n cs/\(∀ b,v.ownBlock=some b->H<=b/\b<U)/\∀ (wa w':World) (K:Value),Zf w wa->wa.grownBy w' v.ownBlock->w'.ownsRow 0 T 1 K (n+1) (cs++[c])->(K.ownBlock=v.ownBlock\/K.ownBlock=some wa.heap.size)->Yr H (l.set i (Go.Proofs.YtlfoalomaofejaaGreatDoor.rowD d T K (xs++[x]))) w':=by
 have hU:=h.1;obtain⟨F,h1,h2,h3⟩:=h.upd i hi;rw[e]at h1;obtain⟨cs,Z,G,h4,h5⟩:=h1;subst W;refine⟨cs,G,λb A=>h2 b (h4 b A),λwa w' K L hg W Y=>?_⟩;have s2:=L.size;have s3:=hg.size;have M:∀ b,v.ownBlock=some b->b<U:=λb A=>(h2 b (h4 b A)).2
 have I:∀ b,K.ownBlock=some b->v.ownBlock=some b\/b=wa.heap.size:=λb A=>by
  rcases Y with q|q
  ·left;rw[<- q];exact A
  ·right;rw[q]at A;injection A with A;exact A.symm
 have V:Fr (λj=>v.ownBlock=some j) w w':=(Fr.trans (S:=λj=>v.ownBlock=some j) (L.mono (λ_ _ e=>e.elim)) ((Fr.refl (λj=>v.ownBlock=some j) wa).grown hg (λk q _=>q)) (λ_ _ q=>q));refine h3 w' _ (λb=>F b\/(U<=b/\b<w'.heap.size)) (V.mono (λj _ q=>h4 j q)) ⟨cs++[c],by simp[Z],by rw[List.length_append,List.length_singleton];exact W,λb A=>?_,λk hk aa=>?_⟩ (λb A=>A.imp id (λq=>q.1)) (λb A=>?_) hH
 ·rcases I b A with q|q
  ·exact .inl (h4 b q)
  ·exact .inr ⟨Om,Ip W A⟩
 ·rcases Nat.lt_or_ge k xs.length with q|q
  ·have e1:(xs++[x])[k]=xs[k]:=List.getElem_append_left q;have e2:(cs++[c])[k]=cs[k]' Om:=List.getElem_append_left Om;rw[e1,e2];refine d.mono (λj _ G=>⟨.inl G.1,λr=>?_⟩) (d.move V.size (λj J G=>V.block j J (λr=>G.2 r)) (h5 k q Om));rcases I j r with z|z
   ·exact G.2 z
   ·have:=(h2 j G.1).2;omega
  ·have X:k=xs.length:=by rw[List.length_append,List.length_singleton]at hk;omega
   subst X;have e1:(xs++[x])[xs.length]=x:=(by simp);have e2:(cs++[c])[xs.length]'(by simp[Z])=c:=(by simp[<- Z]);rw[e1,e2];refine d.mono (λj J G=>⟨.inr ⟨G.1,J⟩,λr=>?_⟩) (d.move (O:=λj=>U<=j/\j<w.heap.size) V.size (λj J G=>V.block j J (λr=>?_)) (d.mono (λj J G=>⟨G,J⟩) hr))
   ·rcases I j r with z|z
    ·have:=M j z;omega
    ·omega
   ·have:=M j r;omega
 ·rcases A with q|q
  ·have:=(h2 b q).2;omega
  ·exact q.2
structure Sx(H:Nat)(w0:World)(l:List Q2)(w:World):Prop where
 st:Yr H l w
 fr:Zf w0 w
 eq:H=w0.heap.size
namespace Sx
variable{H:Nat}{w0 w w' w6:World}{l:List Q2}{o:Obj}
theorem le(h:Sx H w0 l w):H<=w.heap.size:=by rw[h.eq];exact h.fr.size
theorem nil(w:World):Sx w.heap.size w [] w:=⟨Yr.nil _ _,Fl _,rfl⟩
theorem ext(h:Sx H w0 l w)(f:Zf w w'):Sx H w0 l w':=⟨h.st.ext f,h.fr.then f,h.eq⟩
theorem low(h:Sx H w0 l w){S:Nat->Prop}(f:Fr S w w')(q:∀ b,S b->H<=b):Zf w0 w':=h.fr.trans f (λj z e=>by have:=q j e;have:=h.eq;omega)
theorem snoc(h:Sx H w0 l w)(f:Zf w w')(A:Q2)(q:Nat->Prop)(hA:A.P q w')(hF:∀ b,q b->w.heap.size<=b/\b<w'.heap.size):Sx H w0 (l++[A]) w':=⟨h.st.snoc f h.le A q hA hF,h.fr.then f,h.eq⟩
theorem box(h:Sx H w0 l w)(cs:Array Value)(T:TypeId):Sx H w0 (l++[Tp w.heap.size cs T]) (w.alloc (.cells cs T)) :=
 h.snoc ((Fl w).alloc _) _ (λb=>b=w.heap.size) ⟨alloc_at _ _,rfl⟩ (λb q=>by rw[q,Za];omega)
theorem add0(h:Sx H w0 l w)(A:Q2)(hA:A.P (λ_=>False) w):Sx H w0 (l++[A]) w:=h.snoc (Fl w) A (λ_=>False) hA (λ_ q=>q.elim)
theorem take(h:Sx H w0 l w)(n:Nat):Sx H w0 (l.take n) w:=by
 obtain⟨⟨A,h1,h2,h3⟩,h4,z⟩:=h;refine⟨⟨A,λi hi=>?_,λi j hi q=>?_,λi hi=>?_⟩,h4,z⟩
 ·rw[List.length_take]at hi;rw[List.getElem_take];exact h1 i Om
 ·rw[List.length_take]at hi q;exact h2 i j Om Om
 ·rw[List.length_take]at hi;exact h3 i Om
theorem init{A:Q2}(h:Sx H w0 (l++[A]) w):Sx H w0 l w:=by
 have:=h.take l.length;rwa[List.take_left]at this
theorem row{T:TypeId}{k n:Nat}{v:Value}{xs:List Value}(h:Sx H w0 l w)(i:Nat)(hi:i<l.length)(e:l[i]=Yq T k v n xs) :
  w.ownsRow 0 T k v n xs/\∀ {o:Obj} {w6:World} {A:Value} {G:Nat} {z:List Value},(w.alloc o).grownBy w6 v.ownBlock->w6.ownsRow 0 T k A G z->(A.ownBlock=v.ownBlock\/A.ownBlock=some (w.alloc o).heap.size)->Sx H w0 (l.set i (Yq T k A G z)) w6:=by
 obtain⟨a,b,c⟩:=h.st.row i hi e h.le;refine⟨a,λ{o w6 A G z} J K I=>⟨(h.st.rowApp i hi e h.le J K I).1,?_,h.eq⟩⟩;exact h.low (((Fr.refl (λj=>v.ownBlock=some j) w).alloc o).grown J (λk q _=>q)) (λj q=>(b j q).1)
theorem cell{b:Nat}{cs:Array Value}{T:TypeId}(h:Sx H w0 l w)(i:Nat)(hi:i<l.length)(e:l[i]=Tp b cs T) :
  w.heap[b]?=some (.cells cs T (0,0))/\∀ (j:Nat) (u:Value),Sx H w0 (l.set i (Tp b (cs.setIfInBounds j u) T)) (w.setCell ⟨b,j,none⟩ u):=by
 obtain⟨a,z,c⟩:=h.st.cell i hi e h.le;exact⟨a,λj u=>⟨c j u,h.low ((Fr.refl (λk=>k=b) w).setCell ⟨b,j,none⟩ u (λ_=>rfl)) (λk q=>by rw[q];exact z),h.eq⟩⟩
theorem map{κ:Type}[DecidableEq κ]{kv:κ->Value}{r:Nat}{ps:List (κ×Value)}(h:Sx H w0 l w)(i:Nat)(hi:i<l.length)(e:l[i]=Ls kv r ps) :
  Zq kv r ps w/\H<=r/\∀ (w':World) (z:List (κ×Value)),Fr (λj=>j=r) w w'->Zq kv r z w'->Sx H w0 (l.set i (Ls kv r z)) w'/\Ta H w.heap.size (l.set i (Ls kv r z)) w':=by
 obtain⟨a,G,c⟩:=h.st.map i hi e h.le;refine⟨a,G,λw' z f A=>⟨⟨c w' z f A,h.low f (λk q=>by rw[q];exact G),h.eq⟩,?_⟩⟩;obtain⟨F,h1,_,h3⟩:=h.st.up.upd0 i hi;rw[e]at h1;exact h3 w' _ (f.mono (λj _ q=>by rw[q];exact h1.2)) ⟨A,h1.2⟩
theorem block{b n:Nat}{T:TypeId}{f:Nat->Value}(h:Sx H w0 l w)(i:Nat)(hi:i<l.length)(e:l[i]=Py b T n f) :
  w.rowIs b T n f/\∀ (j:Nat) (u:Value),Sx H w0 (l.set i (Py b T n (λx=>if x=j then u else f x))) (w.setCell ⟨b,j,none⟩ u):=by
 obtain⟨a,z,c⟩:=h.st.block i hi e h.le;exact⟨a,λj u=>⟨c j u,h.low ((Fr.refl (λk=>k=b) w).setCell ⟨b,j,none⟩ u (λ_=>rfl)) (λk q=>by rw[q];exact z),h.eq⟩⟩
theorem own{α:Type}{d:Ty α}{T:TypeId}{v:Value}{xs:List α}(h:Sx H w0 l w)(i:Nat)(hi:i<l.length)(e:l[i]=rowD d T v xs):∃ A c,v=.slice A xs.length c:=by
 obtain⟨F,h1,_⟩:=h.st.get i hi;rw[e]at h1;obtain⟨cs,I,q,_⟩:=h1;obtain⟨_,⟨rfl,z⟩|⟨g,cap,G,rfl,_⟩⟩:=q
 ·exact⟨_,_,by rw[z]⟩
 ·exact⟨_,_,rfl⟩
theorem rowD{α:Type}{d:Ty α}{T:TypeId}{v c:Value}{xs:List α}{x:α}{n U:Nat}(h:Sx H w0 l w)(M:Ta H U l w)(A:H<=U)(i:Nat)(hi:i<l.length)(e:l[i]=Go.Proofs.YtlfoalomaofejaaGreatDoor.rowD d T v xs)(L:xs.length=n)(J:d.R w (λj=>U<=j) x [c]) :
  ∃ cs:List Value,w.ownsRow 0 T 1 v n cs/\∀ (o:Obj) (w6:World) (z:Value),(w.alloc o).grownBy w6 v.ownBlock->w6.ownsRow 0 T 1 z (n+1) (cs++[c])->(z.ownBlock=v.ownBlock\/z.ownBlock=some (w.alloc o).heap.size)->Sx H w0 (l.set i (Go.Proofs.YtlfoalomaofejaaGreatDoor.rowD d T z (xs++[x]))) w6:=by
 obtain⟨cs,a,b,c⟩:=M.rowDApp i hi e L A J;refine⟨cs,a,λo w6 z I K G=>⟨c _ w6 z ((Fl w).alloc o) I K G,?_,h.eq⟩⟩;exact h.low (((Fr.refl (λj=>v.ownBlock=some j) w).alloc o).grown I (λk q _=>q)) (λj q=>(b j q).1)
theorem app{m:List Q2}(h:Sx H w0 l w)(f:Zf w w')(k:Yr w.heap.size m w'):Sx H w0 (l++m) w':=⟨h.st.app f k (Nl _) h.le,h.fr.then f,h.eq⟩
end Sx
theorem Zb{w:World}{b:Nat}{cs:Array Value}{T:TypeId}(h:w.heap[b]?=some (.cells cs T (0,0)))(j:Nat)(u:Value)(q:cs[j]?=some u):w.cell? ⟨b,j,none⟩=some u:=by
 simp only[World.cell?,h];exact q
end
end Go.Proofs.YtlfoalomaofejaaGreatDoor
