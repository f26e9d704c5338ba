/- The guards on sizes: what they -/
import Derived.Test.YtlfoalomaofejaaGreatDoorM1
import Derived.Handy
set_option linter.all false
set_option maxHeartbeats 2000000
set_option maxRecDepth 100000
namespace Go.Proofs.YtlfoalomaofejaaGreatDoor
open Go.RowKit DT
theorem Zh{a b:Bool}(h:a=b):Ending.returned (.bool a)=.returned (.bool b):=by rw[h]
theorem Vc{α:Type}(p:α->Bool)(xs:List α)(k:Nat)(q:k<xs.length)(h:p xs[k]=false):xs.all p=false:=by
 rw[List.all_eq_false];exact⟨xs[k],List.getElem_mem q,by simp[h]⟩
theorem Wg{α:Type}(p:α->Bool)(xs:List α)(k:Nat)(q:k<xs.length)(h:(xs.take k).all p=true)(h1:p xs[k]=true):(xs.take (k+1)).all p=true:=by
 rw[List.take_succ_eq_append_getElem q,List.all_append,h];simp[h1]
theorem cellAt{w:World}{b:Nat}{cs:Array Value}{T:TypeId}(h:w.heap[b]?=some (.cells cs T (0,0)))(j:Nat)(u:Value)(q:cs[j]?=some u):w.cell? ⟨b,j,none⟩=some u:=by
 simp only[World.cell?,h];exact q
def Yl(n:Nat):Bool:=decide (n<=2147483647)
theorem O3{n:Nat}(h:n<=2147483647):Yl n=true:=by simpa [Yl] using h
theorem O4{n:Nat}(h:¬ n<=2147483647):Yl n=false:=by simpa [Yl] using h
def Xr(xs:List ByteArray):Bool:=Yl xs.length&&xs.all λs=>Yl s.size
def Xk(x:GWord):Bool:=Yl x.surface.size&&(Xr x.pos&&Xr x.contents)
def We(x:Tr):Bool:=Yl x.name.size
def V6(x:GUnk):Bool:=Xr x.contents
def Xd(x:GMark):Bool:=Yl x.name.size
def Wm(x:GRec):Bool:=Yl x.text.size&&(Xr x.tokens&&(Xr x.yomi&&Yl x.pos.size))
def Yb(d:Zg):Bool:=(Yl d.words.length&&d.words.all Xk)&&(Yl d.costs.length&&((Yl d.classes.length&&d.classes.all We)&&(Yl d.chars.length&&((Yl d.unknown.length&&d.unknown.all V6)&&((Yl d.meta0.length&&d.meta0.all Xd)&&((Yl d.unkMeta.length&&d.unkMeta.all Xd)&&(Yl d.user.length&&d.user.all Wm)))))))
theorem Uu(w:World)(O:Nat->Prop)(A:Option Addr)(c:Nat)(xs:List ByteArray)(h:Ty.str.At w O A xs) :
  Calls Tryz.prog 127 #[.slice A xs.length c] w λe w'=>e=.returned (.bool (Xr xs))/\w=w':=by
 have K:=h.1;have J:=Hd h;clear h;by_cases hl:xs.length<=2147483647
 ·go_enter Tryz.func127,Tryz.ntmps127
  go_wp2_with fail
  go_loop [10] (λi=>∃ k:Nat,k<=xs.length/\i=.int .i64 k/\Hid ((xs.take k).all (λs=>Yl s.size)=true)) (λi=>xs.length-(intOf i).toNat)
  case atStart=>exact⟨0,Nat.zero_le _,rfl,rfl⟩
  case round =>
   obtain⟨k,L,rfl,z⟩:=hrel;by_cases q:k<xs.length
   ·obtain⟨b,o,rfl,_,I,M,_⟩:=Uk J.out k q;by_cases G:xs[k].size<=2147483647
    ·go_wp2_with fail
     go_round
     case rel=>exact⟨k+1,Om,by go_num,Wg _ _ _ q z (O3 G)⟩
     case measure=>simp[intOf];omega
    ·go_wp2_with fail
     go_ret;exact⟨Zh (by unfold Xr;rw[Vc (λs:ByteArray=>Yl s.size) _ _ q (O4 G)];simp),rfl⟩
   ·go_wp2_with fail
    go_ret;exact⟨Zh (by unfold Xr;rw[List.take_of_length_le Om]at z;rw[z.out,O3 hl];rfl),rfl⟩
 ·go_enter Tryz.func127,Tryz.ntmps127
  go_wp2_with fail
  go_ret;exact⟨Zh (by unfold Xr;rw[O4 hl];rfl),rfl⟩
theorem Bh(w:World)(O:Nat->Prop)(x:GWord)(cs:List Value)(h:tWord.R w O x cs):Calls Tryz.prog 92 #[.agg cs.toArray] w λe w'=>e=.returned (.bool (Xk x))/\Zf w w':=by
 obtain⟨p,q,rfl,h1,h2,V⟩:=Ti h;obtain⟨M,G,Y,_,_,a0⟩:=h1;cases Y;have K:Hid (∀ W,Zf w W->Calls Tryz.prog 127 #[.slice M x.pos.length G] W λe w'=>e=.returned (.bool (Xr x.pos))/\W=w'):=λW f=>Uu W O M G _ (Ya a0 f)
 clear a0;obtain⟨L,A,X,_,_,I⟩:=h2;cases X;have J:Hid (∀ W,Zf w W->Calls Tryz.prog 127 #[.slice L x.contents.length A] W λe w'=>e=.returned (.bool (Xr x.contents))/\W=w'):=λW f=>Uu W O L A _ (Ya I f)
 clear I;clear h;unfold Xk;generalize Xr x.pos=b0 at K⊢;generalize Xr x.contents=Z at J⊢;obtain⟨U,z⟩:∃ b,Yl (x.surface.size)=b:=⟨_,rfl⟩;rw[z];cases U;rotate_left;cases b0;rotate_left;cases Z
 all_goals
  (try simp only[Yl,decide_eq_true_eq,decide_eq_false_iff_not]at z)
  go_enter Tryz.func92,Tryz.ntmps92
  go_wp2_with (first|(go_at_call 127;((with_reducible refine (K.out _ ((Fl w).alloc _)).mono ?_);rintro e w' ⟨rfl,rfl⟩))|(go_at_call 127;((with_reducible refine (J.out _ ((Fl w).alloc _)).mono ?_);rintro e w' ⟨rfl,rfl⟩))|fail)
  go_ret;exact⟨Zh (by simp),(Fl w).alloc _⟩
theorem Bl(w:World)(O:Nat->Prop)(x:Tr)(cs:List Value)(h:tClass.R w O x cs):Calls Tryz.prog 93 #[.agg cs.toArray] w λe w'=>e=.returned (.bool (We x))/\Zf w w':=by
 cases Ph h;clear h;unfold We;obtain⟨z,q⟩:∃ b,Yl (x.name.size)=b:=⟨_,rfl⟩;rw[q];cases z
 all_goals
  (try simp only[Yl,decide_eq_true_eq,decide_eq_false_iff_not]at q)
  go_enter Tryz.func93,Tryz.ntmps93
  go_wp2_with (first|fail)
  go_ret;exact⟨Zh (by simp),(Fl w).alloc _⟩
theorem Bn(w:World)(O:Nat->Prop)(x:GUnk)(cs:List Value)(h:tUnk.R w O x cs):Calls Tryz.prog 94 #[.agg cs.toArray] w λe w'=>e=.returned (.bool (V6 x))/\Zf w w':=by
 obtain⟨q,rfl,h1⟩:=Si h;obtain⟨G,z,I,_,_,a0⟩:=h1;cases I;have A:Hid (∀ W,Zf w W->Calls Tryz.prog 127 #[.slice G x.contents.length z] W λe w'=>e=.returned (.bool (Xr x.contents))/\W=w'):=λW f=>Uu W O G z _ (Ya a0 f)
 clear a0;clear h;unfold V6;generalize Xr x.contents=J at A⊢;cases J
 all_goals
  go_enter Tryz.func94,Tryz.ntmps94
  go_wp2_with (first|(go_at_call 127;((with_reducible refine (A.out _ ((Fl w).alloc _)).mono ?_);rintro e w' ⟨rfl,rfl⟩))|fail)
  go_ret;exact⟨Zh (by simp),(Fl w).alloc _⟩
theorem Eo(w:World)(O:Nat->Prop)(x:GMark)(cs:List Value)(h:tMark.R w O x cs):Calls Tryz.prog 95 #[.agg cs.toArray] w λe w'=>e=.returned (.bool (Xd x))/\Zf w w':=by
 obtain⟨rfl,A,_,_⟩:=Oz h;clear h;unfold Xd;obtain⟨z,q⟩:∃ b,Yl (x.name.size)=b:=⟨_,rfl⟩;rw[q];cases z
 all_goals
  (try simp only[Yl,decide_eq_true_eq,decide_eq_false_iff_not]at q)
  go_enter Tryz.func95,Tryz.ntmps95
  go_wp2_with (first|fail)
  go_ret;exact⟨Zh (by simp),(Fl w).alloc _⟩
theorem Ek(w:World)(O:Nat->Prop)(x:GRec)(cs:List Value)(h:tRec.R w O x cs):Calls Tryz.prog 83 #[.agg cs.toArray] w λe w'=>e=.returned (.bool (Wm x))/\Zf w w':=by
 obtain⟨p,q,rfl,h1,h2,Z,G⟩:=P4 h;obtain⟨V,J,e0,_,_,a0⟩:=h1;cases e0;have M:Hid (∀ W,Zf w W->Calls Tryz.prog 127 #[.slice V x.tokens.length J] W λe w'=>e=.returned (.bool (Xr x.tokens))/\W=w'):=λW f=>Uu W O V J _ (Ya a0 f)
 clear a0;obtain⟨U,I,e1,_,_,K⟩:=h2;cases e1;have L:Hid (∀ W,Zf w W->Calls Tryz.prog 127 #[.slice U x.yomi.length I] W λe w'=>e=.returned (.bool (Xr x.yomi))/\W=w'):=λW f=>Uu W O U I _ (Ya K f)
 clear K;clear h;unfold Wm;generalize Xr x.tokens=b0 at M⊢;generalize Xr x.yomi=b1 at L⊢;obtain⟨Y,A⟩:∃ b,Yl (x.text.size)=b:=⟨_,rfl⟩;rw[A];obtain⟨X,z⟩:∃ b,Yl (x.pos.size)=b:=⟨_,rfl⟩;rw[z];cases Y;rotate_left;cases b0;rotate_left;cases b1;rotate_left;cases X
 all_goals
  (try simp only[Yl,decide_eq_true_eq,decide_eq_false_iff_not]at A z)
  go_enter Tryz.func83,Tryz.ntmps83
  go_wp2_with (first|(go_at_call 127;((with_reducible refine (M.out _ ((Fl w).alloc _)).mono ?_);rintro e w' ⟨rfl,rfl⟩))|(go_at_call 127;((with_reducible refine (L.out _ ((Fl w).alloc _)).mono ?_);rintro e w' ⟨rfl,rfl⟩))|fail)
  go_ret;exact⟨Zh (by simp),(Fl w).alloc _⟩
theorem Bj(w:World)(O:Nat->Prop)(A:Option Addr)(c:Nat)(xs:List GWord)(h:tWord.At w O A xs):Calls Tryz.prog 36 #[.slice A xs.length c] w λe w'=>e=.returned (.bool (Yl xs.length&&xs.all Xk))/\Zf w w':=by
 have hm:=h.1;have HN:=Hd h;clear h;by_cases hl:xs.length<=2147483647
 ·go_enter Tryz.func36,Tryz.ntmps36
  go_wp2_with fail
  go_loopg [10] xs.length (λg1 i wr=>∃ k:Nat,i=.int .i64 k/\k<=xs.length/\xs.length<=k+g1/\Hid ((xs.take k).all Xk=true/\Zf w wr))
  case atStart=>exact⟨0,rfl,Nat.zero_le _,Om,rfl,Fl _⟩
  case round =>
   obtain⟨k,rfl,hk,hg,G⟩:=hrel;by_cases J:k<xs.length
   ·rcases HN.out.2 with e|⟨b,o,rfl,_,Y,Z⟩
    ·subst e;simp at J
    obtain⟨cs,M,z⟩:=Z k J;obtain⟨x,X⟩:∃ x,x=xs[k]:=⟨_,rfl⟩;rw[<- X]at M;obtain⟨p,q,rfl,h1,h2,_⟩:=Ti M;obtain⟨A1,c1,e1,_⟩:=h1;cases e1;obtain⟨A2,c2,e2,_⟩:=h2;cases e2;have q0:wr.cell? ⟨b,o+k*6,none⟩=some _:=G.out.2.cell (z 0 (by simp)) id;have q1:wr.cell? ⟨b,o+k*6+1,none⟩=some _:=G.out.2.cell (z 1 (by simp)) id;have q2:wr.cell? ⟨b,o+k*6+2,none⟩=some _:=G.out.2.cell (z 2 (by simp)) id;have q3:wr.cell? ⟨b,o+k*6+3,none⟩=some _:=G.out.2.cell (z 3 (by simp)) id;have q4:wr.cell? ⟨b,o+k*6+4,none⟩=some _:=G.out.2.cell (z 4 (by simp)) id;have q5:wr.cell? ⟨b,o+k*6+5,none⟩=some _:=G.out.2.cell (z 5 (by simp)) id;have aa:b<wr.heap.size:=Nat.lt_of_lt_of_le Y G.out.2.size;have U:Hid (∀ W,Zf wr W->Calls Tryz.prog 92 #[.agg _] W λe w'=>e=.returned (.bool (Xk x))/\Zf W w'):=λW f=>Bh W O x _ (tWord.ext M (G.out.2.then f))
    have V:Hid (Xk xs[k]=Xk x):=by rw[X];rfl
    clear Z z M X;cases L:Xk x
    ·rw[L]at U V;clear L;go_wp2_with (first|(go_at_call 92;refine (U.out _ ((Fl wr).alloc _)).mono ?_;rintro e w1 ⟨rfl,I⟩;have K:=Hd I;clear I)|fail)
     go_ret;exact⟨Zh (by rw[Vc _ _ _ J V.out];simp),(G.out.2.alloc _).then K.out⟩
    ·rw[L]at U V;clear L;go_wp2_with (first|(go_at_call 92;refine (U.out _ ((Fl wr).alloc _)).mono ?_;rintro e w1 ⟨rfl,I⟩;have K:=Hd I;clear I)|fail)
     go_roundg (xs.length-(k+1))
     case measure=>omega
     case rel=>exact⟨k+1,by go_num,Om,Om,Wg _ _ _ J G.out.1 V.out,(G.out.2.alloc _).then K.out⟩
   ·go_wp2_with fail
    go_ret;have e:=G.out.1;rw[List.take_of_length_le Om]at e;exact⟨Zh (by rw[e,O3 hl];rfl),G.out.2⟩
 ·go_enter Tryz.func36,Tryz.ntmps36
  go_wp2_with fail
  go_ret;exact⟨Zh (by rw[O4 hl];rfl),Fl _⟩
theorem Bm(w:World)(O:Nat->Prop)(A:Option Addr)(c:Nat)(xs:List Tr)(h:tClass.At w O A xs):Calls Tryz.prog 37 #[.slice A xs.length c] w λe w'=>e=.returned (.bool (Yl xs.length&&xs.all We))/\Zf w w':=by
 have hm:=h.1;have HN:=Hd h;clear h;by_cases hl:xs.length<=2147483647
 ·go_enter Tryz.func37,Tryz.ntmps37
  go_wp2_with fail
  go_loopg [10] xs.length (λg1 i wr=>∃ k:Nat,i=.int .i64 k/\k<=xs.length/\xs.length<=k+g1/\Hid ((xs.take k).all We=true/\Zf w wr))
  case atStart=>exact⟨0,rfl,Nat.zero_le _,Om,rfl,Fl _⟩
  case round =>
   obtain⟨k,rfl,hk,hg,z⟩:=hrel;by_cases G:k<xs.length
   ·rcases HN.out.2 with e|⟨b,o,rfl,_,X,Y⟩
    ·subst e;simp at G
    obtain⟨cs,L,I⟩:=Y k G;obtain⟨x,V⟩:∃ x,x=xs[k]:=⟨_,rfl⟩;rw[<- V]at L;obtain rfl:=Ph L;have q0:wr.cell? ⟨b,o+k*3,none⟩=some _:=z.out.2.cell (I 0 (by simp)) id;have q1:wr.cell? ⟨b,o+k*3+1,none⟩=some _:=z.out.2.cell (I 1 (by simp)) id;have q2:wr.cell? ⟨b,o+k*3+2,none⟩=some _:=z.out.2.cell (I 2 (by simp)) id;have Z:b<wr.heap.size:=Nat.lt_of_lt_of_le X z.out.2.size;have M:Hid (∀ W,Zf wr W->Calls Tryz.prog 93 #[.agg _] W λe w'=>e=.returned (.bool (We x))/\Zf W w'):=λW f=>Bl W O x _ (tClass.ext L (z.out.2.then f))
    have U:Hid (We xs[k]=We x):=by rw[V];rfl
    clear Y I L V;cases K:We x
    ·rw[K]at M U;clear K;go_wp2_with (first|(go_at_call 93;refine (M.out _ ((Fl wr).alloc _)).mono ?_;rintro e w1 ⟨rfl,q⟩;have J:=Hd q;clear q)|fail)
     go_ret;exact⟨Zh (by rw[Vc _ _ _ G U.out];simp),(z.out.2.alloc _).then J.out⟩
    ·rw[K]at M U;clear K;go_wp2_with (first|(go_at_call 93;refine (M.out _ ((Fl wr).alloc _)).mono ?_;rintro e w1 ⟨rfl,q⟩;have J:=Hd q;clear q)|fail)
     go_roundg (xs.length-(k+1))
     case measure=>omega
     case rel=>exact⟨k+1,by go_num,Om,Om,Wg _ _ _ G z.out.1 U.out,(z.out.2.alloc _).then J.out⟩
   ·go_wp2_with fail
    go_ret;have e:=z.out.1;rw[List.take_of_length_le Om]at e;exact⟨Zh (by rw[e,O3 hl];rfl),z.out.2⟩
 ·go_enter Tryz.func37,Tryz.ntmps37
  go_wp2_with fail
  go_ret;exact⟨Zh (by rw[O4 hl];rfl),Fl _⟩
theorem Bo(w:World)(O:Nat->Prop)(A:Option Addr)(c:Nat)(xs:List GUnk)(h:tUnk.At w O A xs):Calls Tryz.prog 38 #[.slice A xs.length c] w λe w'=>e=.returned (.bool (Yl xs.length&&xs.all V6))/\Zf w w':=by
 have hm:=h.1;have HN:=Hd h;clear h;by_cases hl:xs.length<=2147483647
 ·go_enter Tryz.func38,Tryz.ntmps38
  go_wp2_with fail
  go_loopg [10] xs.length (λg1 i wr=>∃ k:Nat,i=.int .i64 k/\k<=xs.length/\xs.length<=k+g1/\Hid ((xs.take k).all V6=true/\Zf w wr))
  case atStart=>exact⟨0,rfl,Nat.zero_le _,Om,rfl,Fl _⟩
  case round =>
   obtain⟨k,rfl,hk,hg,G⟩:=hrel;by_cases J:k<xs.length
   ·rcases HN.out.2 with e|⟨b,o,rfl,_,Y,Z⟩
    ·subst e;simp at J
    obtain⟨cs,M,z⟩:=Z k J;obtain⟨x,X⟩:∃ x,x=xs[k]:=⟨_,rfl⟩;rw[<- X]at M;obtain⟨q,rfl,h1⟩:=Si M;obtain⟨A1,c1,e1,_⟩:=h1;cases e1;have q0:wr.cell? ⟨b,o+k*5,none⟩=some _:=G.out.2.cell (z 0 (by simp)) id;have q1:wr.cell? ⟨b,o+k*5+1,none⟩=some _:=G.out.2.cell (z 1 (by simp)) id;have q2:wr.cell? ⟨b,o+k*5+2,none⟩=some _:=G.out.2.cell (z 2 (by simp)) id;have q3:wr.cell? ⟨b,o+k*5+3,none⟩=some _:=G.out.2.cell (z 3 (by simp)) id;have q4:wr.cell? ⟨b,o+k*5+4,none⟩=some _:=G.out.2.cell (z 4 (by simp)) id;have aa:b<wr.heap.size:=Nat.lt_of_lt_of_le Y G.out.2.size;have U:Hid (∀ W,Zf wr W->Calls Tryz.prog 94 #[.agg _] W λe w'=>e=.returned (.bool (V6 x))/\Zf W w'):=λW f=>Bn W O x _ (tUnk.ext M (G.out.2.then f))
    have V:Hid (V6 xs[k]=V6 x):=by rw[X];rfl
    clear Z z M X;cases L:V6 x
    ·rw[L]at U V;clear L;go_wp2_with (first|(go_at_call 94;refine (U.out _ ((Fl wr).alloc _)).mono ?_;rintro e w1 ⟨rfl,I⟩;have K:=Hd I;clear I)|fail)
     go_ret;exact⟨Zh (by rw[Vc _ _ _ J V.out];simp),(G.out.2.alloc _).then K.out⟩
    ·rw[L]at U V;clear L;go_wp2_with (first|(go_at_call 94;refine (U.out _ ((Fl wr).alloc _)).mono ?_;rintro e w1 ⟨rfl,I⟩;have K:=Hd I;clear I)|fail)
     go_roundg (xs.length-(k+1))
     case measure=>omega
     case rel=>exact⟨k+1,by go_num,Om,Om,Wg _ _ _ J G.out.1 V.out,(G.out.2.alloc _).then K.out⟩
   ·go_wp2_with fail
    go_ret;have e:=G.out.1;rw[List.take_of_length_le Om]at e;exact⟨Zh (by rw[e,O3 hl];rfl),G.out.2⟩
 ·go_enter Tryz.func38,Tryz.ntmps38
  go_wp2_with fail
  go_ret;exact⟨Zh (by rw[O4 hl];rfl),Fl _⟩
theorem Np(w:World)(O:Nat->Prop)(A:Option Addr)(c:Nat)(xs:List GMark)(h:tMark.At w O A xs):Calls Tryz.prog 39 #[.slice A xs.length c] w λe w'=>e=.returned (.bool (Yl xs.length&&xs.all Xd))/\Zf w w':=by
 have hm:=h.1;have HN:=Hd h;clear h;by_cases hl:xs.length<=2147483647
 ·go_enter Tryz.func39,Tryz.ntmps39
  go_wp2_with fail
  go_loopg [10] xs.length (λg1 i wr=>∃ k:Nat,i=.int .i64 k/\k<=xs.length/\xs.length<=k+g1/\Hid ((xs.take k).all Xd=true/\Zf w wr))
  case atStart=>exact⟨0,rfl,Nat.zero_le _,Om,rfl,Fl _⟩
  case round =>
   obtain⟨k,rfl,hk,hg,G⟩:=hrel;by_cases z:k<xs.length
   ·rcases HN.out.2 with e|⟨b,o,rfl,_,X,Y⟩
    ·subst e;simp at z
    obtain⟨cs,L,I⟩:=Y k z;obtain⟨x,V⟩:∃ x,x=xs[k]:=⟨_,rfl⟩;rw[<- V]at L;obtain⟨rfl,_⟩:=Oz L;have q0:wr.cell? ⟨b,o+k*2,none⟩=some _:=G.out.2.cell (I 0 (by simp)) id;have q1:wr.cell? ⟨b,o+k*2+1,none⟩=some _:=G.out.2.cell (I 1 (by simp)) id;have Z:b<wr.heap.size:=Nat.lt_of_lt_of_le X G.out.2.size;have M:Hid (∀ W,Zf wr W->Calls Tryz.prog 95 #[.agg _] W λe w'=>e=.returned (.bool (Xd x))/\Zf W w'):=λW f=>Eo W O x _ (tMark.ext L (G.out.2.then f))
    have U:Hid (Xd xs[k]=Xd x):=by rw[V];rfl
    clear Y I L V;cases K:Xd x
    ·rw[K]at M U;clear K;go_wp2_with (first|(go_at_call 95;refine (M.out _ ((Fl wr).alloc _)).mono ?_;rintro e w1 ⟨rfl,q⟩;have J:=Hd q;clear q)|fail)
     go_ret;exact⟨Zh (by rw[Vc _ _ _ z U.out];simp),(G.out.2.alloc _).then J.out⟩
    ·rw[K]at M U;clear K;go_wp2_with (first|(go_at_call 95;refine (M.out _ ((Fl wr).alloc _)).mono ?_;rintro e w1 ⟨rfl,q⟩;have J:=Hd q;clear q)|fail)
     go_roundg (xs.length-(k+1))
     case measure=>omega
     case rel=>exact⟨k+1,by go_num,Om,Om,Wg _ _ _ z G.out.1 U.out,(G.out.2.alloc _).then J.out⟩
   ·go_wp2_with fail
    go_ret;have e:=G.out.1;rw[List.take_of_length_le Om]at e;exact⟨Zh (by rw[e,O3 hl];rfl),G.out.2⟩
 ·go_enter Tryz.func39,Tryz.ntmps39
  go_wp2_with fail
  go_ret;exact⟨Zh (by rw[O4 hl];rfl),Fl _⟩
theorem Em(w:World)(O:Nat->Prop)(A:Option Addr)(c:Nat)(xs:List GRec)(h:tRec.At w O A xs):Calls Tryz.prog 26 #[.slice A xs.length c] w λe w'=>e=.returned (.bool (Yl xs.length&&xs.all Wm))/\Zf w w':=by
 have hm:=h.1;have HN:=Hd h;clear h;by_cases hl:xs.length<=2147483647
 ·go_enter Tryz.func26,Tryz.ntmps26
  go_wp2_with fail
  go_loopg [10] xs.length (λg1 i wr=>∃ k:Nat,i=.int .i64 k/\k<=xs.length/\xs.length<=k+g1/\Hid ((xs.take k).all Wm=true/\Zf w wr))
  case atStart=>exact⟨0,rfl,Nat.zero_le _,Om,rfl,Fl _⟩
  case round =>
   obtain⟨k,rfl,hk,hg,I⟩:=hrel;by_cases J:k<xs.length
   ·rcases HN.out.2 with e|⟨b,o,rfl,_,Y,Z⟩
    ·subst e;simp at J
    obtain⟨cs,M,G⟩:=Z k J;obtain⟨x,X⟩:∃ x,x=xs[k]:=⟨_,rfl⟩;rw[<- X]at M;obtain⟨p,q,rfl,h1,h2,_⟩:=P4 M;obtain⟨A1,c1,e1,_⟩:=h1;cases e1;obtain⟨A2,c2,e2,_⟩:=h2;cases e2;have q0:wr.cell? ⟨b,o+k*4,none⟩=some _:=I.out.2.cell (G 0 (by simp)) id;have q1:wr.cell? ⟨b,o+k*4+1,none⟩=some _:=I.out.2.cell (G 1 (by simp)) id;have q2:wr.cell? ⟨b,o+k*4+2,none⟩=some _:=I.out.2.cell (G 2 (by simp)) id;have q3:wr.cell? ⟨b,o+k*4+3,none⟩=some _:=I.out.2.cell (G 3 (by simp)) id;have aa:b<wr.heap.size:=Nat.lt_of_lt_of_le Y I.out.2.size;have U:Hid (∀ W,Zf wr W->Calls Tryz.prog 83 #[.agg _] W λe w'=>e=.returned (.bool (Wm x))/\Zf W w'):=λW f=>Ek W O x _ (tRec.ext M (I.out.2.then f))
    have V:Hid (Wm xs[k]=Wm x):=by rw[X];rfl
    clear Z G M X;cases L:Wm x
    ·rw[L]at U V;clear L;go_wp2_with (first|(go_at_call 83;refine (U.out _ ((Fl wr).alloc _)).mono ?_;rintro e w1 ⟨rfl,z⟩;have K:=Hd z;clear z)|fail)
     go_ret;exact⟨Zh (by rw[Vc _ _ _ J V.out];simp),(I.out.2.alloc _).then K.out⟩
    ·rw[L]at U V;clear L;go_wp2_with (first|(go_at_call 83;refine (U.out _ ((Fl wr).alloc _)).mono ?_;rintro e w1 ⟨rfl,z⟩;have K:=Hd z;clear z)|fail)
     go_roundg (xs.length-(k+1))
     case measure=>omega
     case rel=>exact⟨k+1,by go_num,Om,Om,Wg _ _ _ J I.out.1 V.out,(I.out.2.alloc _).then K.out⟩
   ·go_wp2_with fail
    go_ret;have e:=I.out.1;rw[List.take_of_length_le Om]at e;exact⟨Zh (by rw[e,O3 hl];rfl),I.out.2⟩
 ·go_enter Tryz.func26,Tryz.ntmps26
  go_wp2_with fail
  go_ret;exact⟨Zh (by rw[O4 hl];rfl),Fl _⟩
theorem En(w:World)(O:Nat->Prop)(d:Zg)(cs:List Value)(h:tDict.R w O d cs):Calls Tryz.prog 8 #[.agg cs.toArray] w λe w'=>e=.returned (.bool (Yb d))/\Zf w w':=by
 obtain⟨A1,V,A2,c2,A3,U,A4,c4,A5,M,Z,L,Y,K,X,J,rfl,h1,h2,h3,h4,h5,h6,h7,h8,_⟩:=Y4 h;have C1:Hid (∀ W,Zf w W->Calls Tryz.prog 36 #[.slice A1 d.words.length V] W λe w'=>e=.returned (.bool (Yl d.words.length&&d.words.all Xk))/\Zf W w'):=λW f=>Bj W O A1 V _ (Ya h1.2.2 f)
 have C3:Hid (∀ W,Zf w W->Calls Tryz.prog 37 #[.slice A3 d.classes.length U] W λe w'=>e=.returned (.bool (Yl d.classes.length&&d.classes.all We))/\Zf W w'):=λW f=>Bm W O A3 U _ (Ya h3.2.2 f)
 have C5:Hid (∀ W,Zf w W->Calls Tryz.prog 38 #[.slice A5 d.unknown.length M] W λe w'=>e=.returned (.bool (Yl d.unknown.length&&d.unknown.all V6))/\Zf W w'):=λW f=>Bo W O A5 M _ (Ya h5.2.2 f)
 have C6:Hid (∀ W,Zf w W->Calls Tryz.prog 39 #[.slice Z d.meta0.length L] W λe w'=>e=.returned (.bool (Yl d.meta0.length&&d.meta0.all Xd))/\Zf W w'):=λW f=>Np W O Z L _ (Ya h6.2.2 f)
 have C7:Hid (∀ W,Zf w W->Calls Tryz.prog 39 #[.slice Y d.unkMeta.length K] W λe w'=>e=.returned (.bool (Yl d.unkMeta.length&&d.unkMeta.all Xd))/\Zf W w'):=λW f=>Np W O Y K _ (Ya h7.2.2 f)
 have C8:Hid (∀ W,Zf w W->Calls Tryz.prog 26 #[.slice X d.user.length J] W λe w'=>e=.returned (.bool (Yl d.user.length&&d.user.all Wm))/\Zf W w'):=λW f=>Em W O X J _ (Ya h8.2.2 f)
 have l2:=h2.2.2.1;have l4:=h4.2.2.1;clear h h1 h2 h3 h4 h5 h6 h7 h8;unfold Yb;generalize (Yl d.words.length&&d.words.all Xk)=b1 at C1⊢;generalize (Yl d.classes.length&&d.classes.all We)=b3 at C3⊢;generalize (Yl d.unknown.length&&d.unknown.all V6)=b5 at C5⊢;generalize (Yl d.meta0.length&&d.meta0.all Xd)=b6 at C6⊢;generalize (Yl d.unkMeta.length&&d.unkMeta.all Xd)=b7 at C7⊢;generalize (Yl d.user.length&&d.user.all Wm)=b8 at C8⊢;have X0:=(Fe w).alloc (.cells #[.slice A1 d.words.length V,.int .i64 d.rows,.int .i64 d.cols,.slice A2 d.costs.length c2,.slice A3 d.classes.length U,.slice A4 d.chars.length c4,.slice A5 d.unknown.length M,.slice Z d.meta0.length L,.slice Y d.unkMeta.length K,.bool d.hasUser,.slice X d.user.length J] 30);have B0:=alloc_at w (.cells #[.slice A1 d.words.length V,.int .i64 d.rows,.int .i64 d.cols,.slice A2 d.costs.length c2,.slice A3 d.classes.length U,.slice A4 d.chars.length c4,.slice A5 d.unknown.length M,.slice Z d.meta0.length L,.slice Y d.unkMeta.length K,.bool d.hasUser,.slice X d.user.length J] 30);have HX:=Hd (Ai1 X0 B0);clear X0 B0;obtain⟨b2,ab⟩:∃ b,Yl d.costs.length=b:=⟨_,rfl⟩;rw[ab];obtain⟨b4,aa⟩:∃ b,Yl d.chars.length=b:=⟨_,rfl⟩;rw[aa];cases b1;rotate_left;cases b2;rotate_left;cases b3;rotate_left;cases b4;rotate_left;cases b5;rotate_left;cases b6;rotate_left;cases b7;rotate_left;cases b8
 all_goals
  (try simp only[Yl,decide_eq_true_eq,decide_eq_false_iff_not]at ab aa)
  go_enter Tryz.func8,Tryz.ntmps8
  go_wp2_with (first|(go_at_call 36;((with_reducible refine (C1.out _ HX.out.1).mono ?_);rintro e w1 ⟨rfl,z⟩;have q:=z.heap HX.out.2 id;have I:=cellAt q 0 (.slice A1 d.words.length V) rfl;have k3:=cellAt q 3 (.slice A2 d.costs.length c2) rfl;have k4:=cellAt q 4 (.slice A3 d.classes.length U) rfl;have k5:=cellAt q 5 (.slice A4 d.chars.length c4) rfl;have k6:=cellAt q 6 (.slice A5 d.unknown.length M) rfl;have k7:=cellAt q 7 (.slice Z d.meta0.length L) rfl;have k8:=cellAt q 8 (.slice Y d.unkMeta.length K) rfl;have G:=cellAt q 10 (.slice X d.user.length J) rfl;have lb:=lt_of_cell I;have A:=Hd (Ai1 (HX.out.1.then z) q);clear z q))|(go_at_call 37;((with_reducible refine (C3.out _ A.out.1).mono ?_);rintro e w1 ⟨rfl,z⟩;have q:=z.heap A.out.2 id;have I:=cellAt q 0 (.slice A1 d.words.length V) rfl;have k3:=cellAt q 3 (.slice A2 d.costs.length c2) rfl;have k4:=cellAt q 4 (.slice A3 d.classes.length U) rfl;have k5:=cellAt q 5 (.slice A4 d.chars.length c4) rfl;have k6:=cellAt q 6 (.slice A5 d.unknown.length M) rfl;have k7:=cellAt q 7 (.slice Z d.meta0.length L) rfl;have k8:=cellAt q 8 (.slice Y d.unkMeta.length K) rfl;have G:=cellAt q 10 (.slice X d.user.length J) rfl;have lb:=lt_of_cell I;have A:=Hd (Ai1 (A.out.1.then z) q);clear z q))|(go_at_call 38;((with_reducible refine (C5.out _ A.out.1).mono ?_);rintro e w1 ⟨rfl,z⟩;have q:=z.heap A.out.2 id;have I:=cellAt q 0 (.slice A1 d.words.length V) rfl;have k3:=cellAt q 3 (.slice A2 d.costs.length c2) rfl;have k4:=cellAt q 4 (.slice A3 d.classes.length U) rfl;have k5:=cellAt q 5 (.slice A4 d.chars.length c4) rfl;have k6:=cellAt q 6 (.slice A5 d.unknown.length M) rfl;have k7:=cellAt q 7 (.slice Z d.meta0.length L) rfl;have k8:=cellAt q 8 (.slice Y d.unkMeta.length K) rfl;have G:=cellAt q 10 (.slice X d.user.length J) rfl;have lb:=lt_of_cell I;have A:=Hd (Ai1 (A.out.1.then z) q);clear z q))|(go_at_call 39;((with_reducible refine (C6.out _ A.out.1).mono ?_);rintro e w1 ⟨rfl,z⟩;have q:=z.heap A.out.2 id;have I:=cellAt q 0 (.slice A1 d.words.length V) rfl;have k3:=cellAt q 3 (.slice A2 d.costs.length c2) rfl;have k4:=cellAt q 4 (.slice A3 d.classes.length U) rfl;have k5:=cellAt q 5 (.slice A4 d.chars.length c4) rfl;have k6:=cellAt q 6 (.slice A5 d.unknown.length M) rfl;have k7:=cellAt q 7 (.slice Z d.meta0.length L) rfl;have k8:=cellAt q 8 (.slice Y d.unkMeta.length K) rfl;have G:=cellAt q 10 (.slice X d.user.length J) rfl;have lb:=lt_of_cell I;have A:=Hd (Ai1 (A.out.1.then z) q);clear z q))|(go_at_call 39;((with_reducible refine (C7.out _ A.out.1).mono ?_);rintro e w1 ⟨rfl,z⟩;have q:=z.heap A.out.2 id;have I:=cellAt q 0 (.slice A1 d.words.length V) rfl;have k3:=cellAt q 3 (.slice A2 d.costs.length c2) rfl;have k4:=cellAt q 4 (.slice A3 d.classes.length U) rfl;have k5:=cellAt q 5 (.slice A4 d.chars.length c4) rfl;have k6:=cellAt q 6 (.slice A5 d.unknown.length M) rfl;have k7:=cellAt q 7 (.slice Z d.meta0.length L) rfl;have k8:=cellAt q 8 (.slice Y d.unkMeta.length K) rfl;have G:=cellAt q 10 (.slice X d.user.length J) rfl;have lb:=lt_of_cell I;have A:=Hd (Ai1 (A.out.1.then z) q);clear z q))|(go_at_call 26;((with_reducible refine (C8.out _ A.out.1).mono ?_);rintro e w1 ⟨rfl,z⟩;have q:=z.heap A.out.2 id;have I:=cellAt q 0 (.slice A1 d.words.length V) rfl;have k3:=cellAt q 3 (.slice A2 d.costs.length c2) rfl;have k4:=cellAt q 4 (.slice A3 d.classes.length U) rfl;have k5:=cellAt q 5 (.slice A4 d.chars.length c4) rfl;have k6:=cellAt q 6 (.slice A5 d.unknown.length M) rfl;have k7:=cellAt q 7 (.slice Z d.meta0.length L) rfl;have k8:=cellAt q 8 (.slice Y d.unkMeta.length K) rfl;have G:=cellAt q 10 (.slice X d.user.length J) rfl;have lb:=lt_of_cell I;have A:=Hd (Ai1 (A.out.1.then z) q);clear z q))|fail)
  go_ret;exact⟨Zh (by simp),A.out.1⟩
end Go.Proofs.YtlfoalomaofejaaGreatDoor
