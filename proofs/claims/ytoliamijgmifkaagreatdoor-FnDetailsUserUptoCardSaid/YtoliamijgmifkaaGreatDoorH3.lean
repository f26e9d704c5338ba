/- The guards on sizes: what they -/
import Derived.Test.YtoliamijgmifkaaGreatDoorH1
import Derived.Handy
set_option linter.all false
set_option maxHeartbeats 2000000
set_option maxRecDepth 100000
namespace Go.Proofs.YtoliamijgmifkaaGreatDoor
open Go.RowKit DT
theorem Zk{a b:Bool}(h:a=b):Ending.returned (.bool a)=.returned (.bool b):=by rw[h]
theorem Xa{α:Type}(p:α->Bool)(xs:List α)(k:Nat)(hk:k<xs.length)(h:p xs[k]=false):xs.all p=false:=by
 rw[List.all_eq_false];exact⟨xs[k],List.getElem_mem hk,by simp[h]⟩
theorem Y0{α:Type}(p:α->Bool)(xs:List α)(k:Nat)(hk:k<xs.length)(h:(xs.take k).all p=true)(h1:p xs[k]=true):(xs.take (k+1)).all p=true:=by
 rw[List.take_succ_eq_append_getElem hk,List.all_append,h];simp[h1]
theorem cellAt{w:World}{b:Nat}{cs:Array Value}{T:TypeId}(h:w.heap[b]?=some (.cells cs T (0,0)))(j:Nat)(u:Value)(hj:cs[j]?=some u):w.cell? ⟨b,j,none⟩=some u:=by
 simp only[World.cell?,h];exact hj
def Yr(n:Nat):Bool:=decide (n<=2147483647)
theorem Lf{n:Nat}(h:n<=2147483647):Yr n=true:=by simpa [Yr] using h
theorem Lg{n:Nat}(h:¬ n<=2147483647):Yr n=false:=by simpa [Yr] using h
def Vh(xs:List ByteArray):Bool:=Yr xs.length&&xs.all λs=>Yr s.size
def Xg(x:GWord):Bool:=Yr x.surface.size&&(Vh x.pos&&Vh x.contents)
def Wf(x:Tl):Bool:=Yr x.name.size
def Ua(x:GUnk):Bool:=Vh x.contents
def Xt(x:GMark):Bool:=Yr x.name.size
def Wn(x:GRec):Bool:=Yr x.text.size&&(Vh x.tokens&&(Vh x.yomi&&Yr x.pos.size))
def Yn(d:Zj):Bool:=(Yr d.words.length&&d.words.all Xg)&&(Yr d.costs.length&&((Yr d.classes.length&&d.classes.all Wf)&&(Yr d.chars.length&&((Yr d.unknown.length&&d.unknown.all Ua)&&((Yr d.meta0.length&&d.meta0.all Xt)&&((Yr d.unkMeta.length&&d.unkMeta.all Xt)&&(Yr d.user.length&&d.user.all Wn)))))))
theorem Uz(w:World)(O:Nat->Prop)(A:Option Addr)(c:Nat)(xs:List ByteArray)(h:Ty.str.At w O A xs) :
  Calls Tryz.prog 114 #[.slice A xs.length c] w λe w'=>e=.returned (.bool (Vh xs))/\w=w':=by
 have hm:=h.1;have HN:=Hd h;clear h;by_cases hl:xs.length<=2147483647
 ·go_enter Tryz.func114,Tryz.ntmps114
  go_wp2_with fail
  go_loop [10] (λi=>∃ k:Nat,k<=xs.length/\i=.int .i64 k/\Hid ((xs.take k).all (λs=>Yr s.size)=true)) (λi=>xs.length-(intOf i).toNat)
  case atStart=>exact⟨0,Nat.zero_le _,rfl,rfl⟩
  case round =>
   obtain⟨k,hk,rfl,HA⟩:=hrel;by_cases hlt:k<xs.length
   ·obtain⟨b,o,rfl,_,hbl,c0,_⟩:=Ul HN.out k hlt;by_cases hs:xs[k].size<=2147483647
    ·go_wp2_with fail
     go_round
     case rel=>exact⟨k+1,Om,by go_num,Y0 _ _ _ hlt HA (Lf hs)⟩
     case measure=>simp[intOf];omega
    ·go_wp2_with fail
     go_ret;exact⟨Zk (by unfold Vh;rw[Xa (λs:ByteArray=>Yr s.size) _ _ hlt (Lg hs)];simp),rfl⟩
   ·go_wp2_with fail
    go_ret;exact⟨Zk (by unfold Vh;rw[List.take_of_length_le Om]at HA;rw[HA.out,Lf hl];rfl),rfl⟩
 ·go_enter Tryz.func114,Tryz.ntmps114
  go_wp2_with fail
  go_ret;exact⟨Zk (by unfold Vh;rw[Lg hl];rfl),rfl⟩
theorem Zby(w:World)(O:Nat->Prop)(x:GWord)(cs:List Value)(h:tWord.R w O x cs):Calls Tryz.prog 69 #[.agg cs.toArray] w λe w'=>e=.returned (.bool (Xg x))/\Zg w w':=by
 obtain⟨p,q,rfl,h1,h2,hsz⟩:=Ui h;obtain⟨A0,c0,e0,_,_,a0⟩:=h1;cases e0;have C0:Hid (∀ W,Zg w W->Calls Tryz.prog 114 #[.slice A0 x.pos.length c0] W λe w'=>e=.returned (.bool (Vh x.pos))/\W=w'):=λW f=>Uz W O A0 c0 _ (Yc a0 f)
 clear a0;obtain⟨A1,c1,e1,_,_,a1⟩:=h2;cases e1;have C1:Hid (∀ W,Zg w W->Calls Tryz.prog 114 #[.slice A1 x.contents.length c1] W λe w'=>e=.returned (.bool (Vh x.contents))/\W=w'):=λW f=>Uz W O A1 c1 _ (Yc a1 f)
 clear a1;clear h;unfold Xg;generalize Vh x.pos=b0 at C0⊢;generalize Vh x.contents=b1 at C1⊢;obtain⟨l0,hl0⟩:∃ b,Yr (x.surface.size)=b:=⟨_,rfl⟩;rw[hl0];cases l0;rotate_left;cases b0;rotate_left;cases b1
 all_goals
  (try simp only[Yr,decide_eq_true_eq,decide_eq_false_iff_not]at hl0)
  go_enter Tryz.func69,Tryz.ntmps69
  go_wp2_with (first|(go_at_call 114;((with_reducible refine (C0.out _ ((Fl w).alloc _)).mono ?_);rintro e w' ⟨rfl,rfl⟩))|(go_at_call 114;((with_reducible refine (C1.out _ ((Fl w).alloc _)).mono ?_);rintro e w' ⟨rfl,rfl⟩))|fail)
  go_ret;exact⟨Zk (by simp),(Fl w).alloc _⟩
theorem Zb0(w:World)(O:Nat->Prop)(x:Tl)(cs:List Value)(h:tClass.R w O x cs):Calls Tryz.prog 70 #[.agg cs.toArray] w λe w'=>e=.returned (.bool (Wf x))/\Zg w w':=by
 cases Nv h;clear h;unfold Wf;obtain⟨l0,hl0⟩:∃ b,Yr (x.name.size)=b:=⟨_,rfl⟩;rw[hl0];cases l0
 all_goals
  (try simp only[Yr,decide_eq_true_eq,decide_eq_false_iff_not]at hl0)
  go_enter Tryz.func70,Tryz.ntmps70
  go_wp2_with (first|fail)
  go_ret;exact⟨Zk (by simp),(Fl w).alloc _⟩
theorem Zb2(w:World)(O:Nat->Prop)(x:GUnk)(cs:List Value)(h:tUnk.R w O x cs):Calls Tryz.prog 71 #[.agg cs.toArray] w λe w'=>e=.returned (.bool (Ua x))/\Zg w w':=by
 obtain⟨q,rfl,h1⟩:=Tv h;obtain⟨A0,c0,e0,_,_,a0⟩:=h1;cases e0;have C0:Hid (∀ W,Zg w W->Calls Tryz.prog 114 #[.slice A0 x.contents.length c0] W λe w'=>e=.returned (.bool (Vh x.contents))/\W=w'):=λW f=>Uz W O A0 c0 _ (Yc a0 f)
 clear a0;clear h;unfold Ua;generalize Vh x.contents=b0 at C0⊢;cases b0
 all_goals
  go_enter Tryz.func71,Tryz.ntmps71
  go_wp2_with (first|(go_at_call 114;((with_reducible refine (C0.out _ ((Fl w).alloc _)).mono ?_);rintro e w' ⟨rfl,rfl⟩))|fail)
  go_ret;exact⟨Zk (by simp),(Fl w).alloc _⟩
theorem Zaa(w:World)(O:Nat->Prop)(x:GMark)(cs:List Value)(h:tMark.R w O x cs):Calls Tryz.prog 72 #[.agg cs.toArray] w λe w'=>e=.returned (.bool (Xt x))/\Zg w w':=by
 obtain⟨rfl,hsz,_,_⟩:=Le h;clear h;unfold Xt;obtain⟨l0,hl0⟩:∃ b,Yr (x.name.size)=b:=⟨_,rfl⟩;rw[hl0];cases l0
 all_goals
  (try simp only[Yr,decide_eq_true_eq,decide_eq_false_iff_not]at hl0)
  go_enter Tryz.func72,Tryz.ntmps72
  go_wp2_with (first|fail)
  go_ret;exact⟨Zk (by simp),(Fl w).alloc _⟩
theorem Ax(w:World)(O:Nat->Prop)(x:GRec)(cs:List Value)(h:tRec.R w O x cs):Calls Tryz.prog 73 #[.agg cs.toArray] w λe w'=>e=.returned (.bool (Wn x))/\Zg w w':=by
 obtain⟨p,q,rfl,h1,h2,hsz,hsz2⟩:=Mi h;obtain⟨A0,c0,e0,_,_,a0⟩:=h1;cases e0;have C0:Hid (∀ W,Zg w W->Calls Tryz.prog 114 #[.slice A0 x.tokens.length c0] W λe w'=>e=.returned (.bool (Vh x.tokens))/\W=w'):=λW f=>Uz W O A0 c0 _ (Yc a0 f)
 clear a0;obtain⟨A1,c1,e1,_,_,a1⟩:=h2;cases e1;have C1:Hid (∀ W,Zg w W->Calls Tryz.prog 114 #[.slice A1 x.yomi.length c1] W λe w'=>e=.returned (.bool (Vh x.yomi))/\W=w'):=λW f=>Uz W O A1 c1 _ (Yc a1 f)
 clear a1;clear h;unfold Wn;generalize Vh x.tokens=b0 at C0⊢;generalize Vh x.yomi=b1 at C1⊢;obtain⟨l0,hl0⟩:∃ b,Yr (x.text.size)=b:=⟨_,rfl⟩;rw[hl0];obtain⟨l3,hl3⟩:∃ b,Yr (x.pos.size)=b:=⟨_,rfl⟩;rw[hl3];cases l0;rotate_left;cases b0;rotate_left;cases b1;rotate_left;cases l3
 all_goals
  (try simp only[Yr,decide_eq_true_eq,decide_eq_false_iff_not]at hl0 hl3)
  go_enter Tryz.func73,Tryz.ntmps73
  go_wp2_with (first|(go_at_call 114;((with_reducible refine (C0.out _ ((Fl w).alloc _)).mono ?_);rintro e w' ⟨rfl,rfl⟩))|(go_at_call 114;((with_reducible refine (C1.out _ ((Fl w).alloc _)).mono ?_);rintro e w' ⟨rfl,rfl⟩))|fail)
  go_ret;exact⟨Zk (by simp),(Fl w).alloc _⟩
theorem Zbz(w:World)(O:Nat->Prop)(A:Option Addr)(c:Nat)(xs:List GWord)(h:tWord.At w O A xs):Calls Tryz.prog 26 #[.slice A xs.length c] w λe w'=>e=.returned (.bool (Yr xs.length&&xs.all Xg))/\Zg w w':=by
 have hm:=h.1;have HN:=Hd h;clear h;by_cases hl:xs.length<=2147483647
 ·go_enter Tryz.func26,Tryz.ntmps26
  go_wp2_with fail
  go_loopg [10] xs.length (λg1 i wr=>∃ k:Nat,i=.int .i64 k/\k<=xs.length/\xs.length<=k+g1/\Hid ((xs.take k).all Xg=true/\Zg w wr))
  case atStart=>exact⟨0,rfl,Nat.zero_le _,Om,rfl,Fl _⟩
  case round =>
   obtain⟨k,rfl,hk,hg,HA⟩:=hrel;by_cases hlt:k<xs.length
   ·rcases HN.out.2 with e|⟨b,o,rfl,_,hbl,hc⟩
    ·subst e;simp at hlt
    obtain⟨cs,hr,hcs⟩:=hc k hlt;obtain⟨x,hx⟩:∃ x,x=xs[k]:=⟨_,rfl⟩;rw[<- hx]at hr;obtain⟨p,q,rfl,h1,h2,_⟩:=Ui hr;obtain⟨A1,c1,e1,_⟩:=h1;cases e1;obtain⟨A2,c2,e2,_⟩:=h2;cases e2;have q0:wr.cell? ⟨b,o+k*6,none⟩=some _:=HA.out.2.cell (hcs 0 (by simp)) id;have q1:wr.cell? ⟨b,o+k*6+1,none⟩=some _:=HA.out.2.cell (hcs 1 (by simp)) id;have q2:wr.cell? ⟨b,o+k*6+2,none⟩=some _:=HA.out.2.cell (hcs 2 (by simp)) id;have q3:wr.cell? ⟨b,o+k*6+3,none⟩=some _:=HA.out.2.cell (hcs 3 (by simp)) id;have q4:wr.cell? ⟨b,o+k*6+4,none⟩=some _:=HA.out.2.cell (hcs 4 (by simp)) id;have q5:wr.cell? ⟨b,o+k*6+5,none⟩=some _:=HA.out.2.cell (hcs 5 (by simp)) id;have hbl2:b<wr.heap.size:=Nat.lt_of_lt_of_le hbl HA.out.2.size;have HS:Hid (∀ W,Zg wr W->Calls Tryz.prog 69 #[.agg _] W λe w'=>e=.returned (.bool (Xg x))/\Zg W w'):=λW f=>Zby W O x _ (tWord.ext hr (HA.out.2.then f))
    have HP:Hid (Xg xs[k]=Xg x):=by rw[hx];rfl
    clear hc hcs hr hx;cases hv:Xg x
    ·rw[hv]at HS HP;clear hv;go_wp2_with (first|(go_at_call 69;refine (HS.out _ ((Fl wr).alloc _)).mono ?_;rintro e w1 ⟨rfl,hx1⟩;have HX1:=Hd hx1;clear hx1)|fail)
     go_ret;exact⟨Zk (by rw[Xa _ _ _ hlt HP.out];simp),(HA.out.2.alloc _).then HX1.out⟩
    ·rw[hv]at HS HP;clear hv;go_wp2_with (first|(go_at_call 69;refine (HS.out _ ((Fl wr).alloc _)).mono ?_;rintro e w1 ⟨rfl,hx1⟩;have HX1:=Hd hx1;clear hx1)|fail)
     go_roundg (xs.length-(k+1))
     case measure=>omega
     case rel=>exact⟨k+1,by go_num,Om,Om,Y0 _ _ _ hlt HA.out.1 HP.out,(HA.out.2.alloc _).then HX1.out⟩
   ·go_wp2_with fail
    go_ret;have e:=HA.out.1;rw[List.take_of_length_le Om]at e;exact⟨Zk (by rw[e,Lf hl];rfl),HA.out.2⟩
 ·go_enter Tryz.func26,Tryz.ntmps26
  go_wp2_with fail
  go_ret;exact⟨Zk (by rw[Lg hl];rfl),Fl _⟩
theorem Zb1(w:World)(O:Nat->Prop)(A:Option Addr)(c:Nat)(xs:List Tl)(h:tClass.At w O A xs):Calls Tryz.prog 27 #[.slice A xs.length c] w λe w'=>e=.returned (.bool (Yr xs.length&&xs.all Wf))/\Zg w w':=by
 have hm:=h.1;have HN:=Hd h;clear h;by_cases hl:xs.length<=2147483647
 ·go_enter Tryz.func27,Tryz.ntmps27
  go_wp2_with fail
  go_loopg [10] xs.length (λg1 i wr=>∃ k:Nat,i=.int .i64 k/\k<=xs.length/\xs.length<=k+g1/\Hid ((xs.take k).all Wf=true/\Zg w wr))
  case atStart=>exact⟨0,rfl,Nat.zero_le _,Om,rfl,Fl _⟩
  case round =>
   obtain⟨k,rfl,hk,hg,HA⟩:=hrel;by_cases hlt:k<xs.length
   ·rcases HN.out.2 with e|⟨b,o,rfl,_,hbl,hc⟩
    ·subst e;simp at hlt
    obtain⟨cs,hr,hcs⟩:=hc k hlt;obtain⟨x,hx⟩:∃ x,x=xs[k]:=⟨_,rfl⟩;rw[<- hx]at hr;obtain rfl:=Nv hr;have q0:wr.cell? ⟨b,o+k*3,none⟩=some _:=HA.out.2.cell (hcs 0 (by simp)) id;have q1:wr.cell? ⟨b,o+k*3+1,none⟩=some _:=HA.out.2.cell (hcs 1 (by simp)) id;have q2:wr.cell? ⟨b,o+k*3+2,none⟩=some _:=HA.out.2.cell (hcs 2 (by simp)) id;have hbl2:b<wr.heap.size:=Nat.lt_of_lt_of_le hbl HA.out.2.size;have HS:Hid (∀ W,Zg wr W->Calls Tryz.prog 70 #[.agg _] W λe w'=>e=.returned (.bool (Wf x))/\Zg W w'):=λW f=>Zb0 W O x _ (tClass.ext hr (HA.out.2.then f))
    have HP:Hid (Wf xs[k]=Wf x):=by rw[hx];rfl
    clear hc hcs hr hx;cases hv:Wf x
    ·rw[hv]at HS HP;clear hv;go_wp2_with (first|(go_at_call 70;refine (HS.out _ ((Fl wr).alloc _)).mono ?_;rintro e w1 ⟨rfl,hx1⟩;have HX1:=Hd hx1;clear hx1)|fail)
     go_ret;exact⟨Zk (by rw[Xa _ _ _ hlt HP.out];simp),(HA.out.2.alloc _).then HX1.out⟩
    ·rw[hv]at HS HP;clear hv;go_wp2_with (first|(go_at_call 70;refine (HS.out _ ((Fl wr).alloc _)).mono ?_;rintro e w1 ⟨rfl,hx1⟩;have HX1:=Hd hx1;clear hx1)|fail)
     go_roundg (xs.length-(k+1))
     case measure=>omega
     case rel=>exact⟨k+1,by go_num,Om,Om,Y0 _ _ _ hlt HA.out.1 HP.out,(HA.out.2.alloc _).then HX1.out⟩
   ·go_wp2_with fail
    go_ret;have e:=HA.out.1;rw[List.take_of_length_le Om]at e;exact⟨Zk (by rw[e,Lf hl];rfl),HA.out.2⟩
 ·go_enter Tryz.func27,Tryz.ntmps27
  go_wp2_with fail
  go_ret;exact⟨Zk (by rw[Lg hl];rfl),Fl _⟩
theorem Zb3(w:World)(O:Nat->Prop)(A:Option Addr)(c:Nat)(xs:List GUnk)(h:tUnk.At w O A xs):Calls Tryz.prog 28 #[.slice A xs.length c] w λe w'=>e=.returned (.bool (Yr xs.length&&xs.all Ua))/\Zg w w':=by
 have hm:=h.1;have HN:=Hd h;clear h;by_cases hl:xs.length<=2147483647
 ·go_enter Tryz.func28,Tryz.ntmps28
  go_wp2_with fail
  go_loopg [10] xs.length (λg1 i wr=>∃ k:Nat,i=.int .i64 k/\k<=xs.length/\xs.length<=k+g1/\Hid ((xs.take k).all Ua=true/\Zg w wr))
  case atStart=>exact⟨0,rfl,Nat.zero_le _,Om,rfl,Fl _⟩
  case round =>
   obtain⟨k,rfl,hk,hg,HA⟩:=hrel;by_cases hlt:k<xs.length
   ·rcases HN.out.2 with e|⟨b,o,rfl,_,hbl,hc⟩
    ·subst e;simp at hlt
    obtain⟨cs,hr,hcs⟩:=hc k hlt;obtain⟨x,hx⟩:∃ x,x=xs[k]:=⟨_,rfl⟩;rw[<- hx]at hr;obtain⟨q,rfl,h1⟩:=Tv hr;obtain⟨A1,c1,e1,_⟩:=h1;cases e1;have q0:wr.cell? ⟨b,o+k*5,none⟩=some _:=HA.out.2.cell (hcs 0 (by simp)) id;have q1:wr.cell? ⟨b,o+k*5+1,none⟩=some _:=HA.out.2.cell (hcs 1 (by simp)) id;have q2:wr.cell? ⟨b,o+k*5+2,none⟩=some _:=HA.out.2.cell (hcs 2 (by simp)) id;have q3:wr.cell? ⟨b,o+k*5+3,none⟩=some _:=HA.out.2.cell (hcs 3 (by simp)) id;have q4:wr.cell? ⟨b,o+k*5+4,none⟩=some _:=HA.out.2.cell (hcs 4 (by simp)) id;have hbl2:b<wr.heap.size:=Nat.lt_of_lt_of_le hbl HA.out.2.size;have HS:Hid (∀ W,Zg wr W->Calls Tryz.prog 71 #[.agg _] W λe w'=>e=.returned (.bool (Ua x))/\Zg W w'):=λW f=>Zb2 W O x _ (tUnk.ext hr (HA.out.2.then f))
    have HP:Hid (Ua xs[k]=Ua x):=by rw[hx];rfl
    clear hc hcs hr hx;cases hv:Ua x
    ·rw[hv]at HS HP;clear hv;go_wp2_with (first|(go_at_call 71;refine (HS.out _ ((Fl wr).alloc _)).mono ?_;rintro e w1 ⟨rfl,hx1⟩;have HX1:=Hd hx1;clear hx1)|fail)
     go_ret;exact⟨Zk (by rw[Xa _ _ _ hlt HP.out];simp),(HA.out.2.alloc _).then HX1.out⟩
    ·rw[hv]at HS HP;clear hv;go_wp2_with (first|(go_at_call 71;refine (HS.out _ ((Fl wr).alloc _)).mono ?_;rintro e w1 ⟨rfl,hx1⟩;have HX1:=Hd hx1;clear hx1)|fail)
     go_roundg (xs.length-(k+1))
     case measure=>omega
     case rel=>exact⟨k+1,by go_num,Om,Om,Y0 _ _ _ hlt HA.out.1 HP.out,(HA.out.2.alloc _).then HX1.out⟩
   ·go_wp2_with fail
    go_ret;have e:=HA.out.1;rw[List.take_of_length_le Om]at e;exact⟨Zk (by rw[e,Lf hl];rfl),HA.out.2⟩
 ·go_enter Tryz.func28,Tryz.ntmps28
  go_wp2_with fail
  go_ret;exact⟨Zk (by rw[Lg hl];rfl),Fl _⟩
theorem Kk(w:World)(O:Nat->Prop)(A:Option Addr)(c:Nat)(xs:List GMark)(h:tMark.At w O A xs):Calls Tryz.prog 29 #[.slice A xs.length c] w λe w'=>e=.returned (.bool (Yr xs.length&&xs.all Xt))/\Zg w w':=by
 have hm:=h.1;have HN:=Hd h;clear h;by_cases hl:xs.length<=2147483647
 ·go_enter Tryz.func29,Tryz.ntmps29
  go_wp2_with fail
  go_loopg [10] xs.length (λg1 i wr=>∃ k:Nat,i=.int .i64 k/\k<=xs.length/\xs.length<=k+g1/\Hid ((xs.take k).all Xt=true/\Zg w wr))
  case atStart=>exact⟨0,rfl,Nat.zero_le _,Om,rfl,Fl _⟩
  case round =>
   obtain⟨k,rfl,hk,hg,HA⟩:=hrel;by_cases hlt:k<xs.length
   ·rcases HN.out.2 with e|⟨b,o,rfl,_,hbl,hc⟩
    ·subst e;simp at hlt
    obtain⟨cs,hr,hcs⟩:=hc k hlt;obtain⟨x,hx⟩:∃ x,x=xs[k]:=⟨_,rfl⟩;rw[<- hx]at hr;obtain⟨rfl,_⟩:=Le hr;have q0:wr.cell? ⟨b,o+k*2,none⟩=some _:=HA.out.2.cell (hcs 0 (by simp)) id;have q1:wr.cell? ⟨b,o+k*2+1,none⟩=some _:=HA.out.2.cell (hcs 1 (by simp)) id;have hbl2:b<wr.heap.size:=Nat.lt_of_lt_of_le hbl HA.out.2.size;have HS:Hid (∀ W,Zg wr W->Calls Tryz.prog 72 #[.agg _] W λe w'=>e=.returned (.bool (Xt x))/\Zg W w'):=λW f=>Zaa W O x _ (tMark.ext hr (HA.out.2.then f))
    have HP:Hid (Xt xs[k]=Xt x):=by rw[hx];rfl
    clear hc hcs hr hx;cases hv:Xt x
    ·rw[hv]at HS HP;clear hv;go_wp2_with (first|(go_at_call 72;refine (HS.out _ ((Fl wr).alloc _)).mono ?_;rintro e w1 ⟨rfl,hx1⟩;have HX1:=Hd hx1;clear hx1)|fail)
     go_ret;exact⟨Zk (by rw[Xa _ _ _ hlt HP.out];simp),(HA.out.2.alloc _).then HX1.out⟩
    ·rw[hv]at HS HP;clear hv;go_wp2_with (first|(go_at_call 72;refine (HS.out _ ((Fl wr).alloc _)).mono ?_;rintro e w1 ⟨rfl,hx1⟩;have HX1:=Hd hx1;clear hx1)|fail)
     go_roundg (xs.length-(k+1))
     case measure=>omega
     case rel=>exact⟨k+1,by go_num,Om,Om,Y0 _ _ _ hlt HA.out.1 HP.out,(HA.out.2.alloc _).then HX1.out⟩
   ·go_wp2_with fail
    go_ret;have e:=HA.out.1;rw[List.take_of_length_le Om]at e;exact⟨Zk (by rw[e,Lf hl];rfl),HA.out.2⟩
 ·go_enter Tryz.func29,Tryz.ntmps29
  go_wp2_with fail
  go_ret;exact⟨Zk (by rw[Lg hl];rfl),Fl _⟩
theorem Az(w:World)(O:Nat->Prop)(A:Option Addr)(c:Nat)(xs:List GRec)(h:tRec.At w O A xs):Calls Tryz.prog 30 #[.slice A xs.length c] w λe w'=>e=.returned (.bool (Yr xs.length&&xs.all Wn))/\Zg w w':=by
 have hm:=h.1;have HN:=Hd h;clear h;by_cases hl:xs.length<=2147483647
 ·go_enter Tryz.func30,Tryz.ntmps30
  go_wp2_with fail
  go_loopg [10] xs.length (λg1 i wr=>∃ k:Nat,i=.int .i64 k/\k<=xs.length/\xs.length<=k+g1/\Hid ((xs.take k).all Wn=true/\Zg w wr))
  case atStart=>exact⟨0,rfl,Nat.zero_le _,Om,rfl,Fl _⟩
  case round =>
   obtain⟨k,rfl,hk,hg,HA⟩:=hrel;by_cases hlt:k<xs.length
   ·rcases HN.out.2 with e|⟨b,o,rfl,_,hbl,hc⟩
    ·subst e;simp at hlt
    obtain⟨cs,hr,hcs⟩:=hc k hlt;obtain⟨x,hx⟩:∃ x,x=xs[k]:=⟨_,rfl⟩;rw[<- hx]at hr;obtain⟨p,q,rfl,h1,h2,_⟩:=Mi hr;obtain⟨A1,c1,e1,_⟩:=h1;cases e1;obtain⟨A2,c2,e2,_⟩:=h2;cases e2;have q0:wr.cell? ⟨b,o+k*4,none⟩=some _:=HA.out.2.cell (hcs 0 (by simp)) id;have q1:wr.cell? ⟨b,o+k*4+1,none⟩=some _:=HA.out.2.cell (hcs 1 (by simp)) id;have q2:wr.cell? ⟨b,o+k*4+2,none⟩=some _:=HA.out.2.cell (hcs 2 (by simp)) id;have q3:wr.cell? ⟨b,o+k*4+3,none⟩=some _:=HA.out.2.cell (hcs 3 (by simp)) id;have hbl2:b<wr.heap.size:=Nat.lt_of_lt_of_le hbl HA.out.2.size;have HS:Hid (∀ W,Zg wr W->Calls Tryz.prog 73 #[.agg _] W λe w'=>e=.returned (.bool (Wn x))/\Zg W w'):=λW f=>Ax W O x _ (tRec.ext hr (HA.out.2.then f))
    have HP:Hid (Wn xs[k]=Wn x):=by rw[hx];rfl
    clear hc hcs hr hx;cases hv:Wn x
    ·rw[hv]at HS HP;clear hv;go_wp2_with (first|(go_at_call 73;refine (HS.out _ ((Fl wr).alloc _)).mono ?_;rintro e w1 ⟨rfl,hx1⟩;have HX1:=Hd hx1;clear hx1)|fail)
     go_ret;exact⟨Zk (by rw[Xa _ _ _ hlt HP.out];simp),(HA.out.2.alloc _).then HX1.out⟩
    ·rw[hv]at HS HP;clear hv;go_wp2_with (first|(go_at_call 73;refine (HS.out _ ((Fl wr).alloc _)).mono ?_;rintro e w1 ⟨rfl,hx1⟩;have HX1:=Hd hx1;clear hx1)|fail)
     go_roundg (xs.length-(k+1))
     case measure=>omega
     case rel=>exact⟨k+1,by go_num,Om,Om,Y0 _ _ _ hlt HA.out.1 HP.out,(HA.out.2.alloc _).then HX1.out⟩
   ·go_wp2_with fail
    go_ret;have e:=HA.out.1;rw[List.take_of_length_le Om]at e;exact⟨Zk (by rw[e,Lf hl];rfl),HA.out.2⟩
 ·go_enter Tryz.func30,Tryz.ntmps30
  go_wp2_with fail
  go_ret;exact⟨Zk (by rw[Lg hl];rfl),Fl _⟩
theorem Tr(w:World)(O:Nat->Prop)(d:Zj)(cs:List Value)(h:tDict.R w O d cs):Calls Tryz.prog 9 #[.agg cs.toArray] w λe w'=>e=.returned (.bool (Yn d))/\Zg w w':=by
 obtain⟨A1,c1,A2,c2,A3,c3,A4,c4,A5,c5,A6,c6,A7,c7,A8,c8,rfl,h1,h2,h3,h4,h5,h6,h7,h8,_⟩:=Ye h;have C1:Hid (∀ W,Zg w W->Calls Tryz.prog 26 #[.slice A1 d.words.length c1] W λe w'=>e=.returned (.bool (Yr d.words.length&&d.words.all Xg))/\Zg W w'):=λW f=>Zbz W O A1 c1 _ (Yc h1.2.2 f)
 have C3:Hid (∀ W,Zg w W->Calls Tryz.prog 27 #[.slice A3 d.classes.length c3] W λe w'=>e=.returned (.bool (Yr d.classes.length&&d.classes.all Wf))/\Zg W w'):=λW f=>Zb1 W O A3 c3 _ (Yc h3.2.2 f)
 have C5:Hid (∀ W,Zg w W->Calls Tryz.prog 28 #[.slice A5 d.unknown.length c5] W λe w'=>e=.returned (.bool (Yr d.unknown.length&&d.unknown.all Ua))/\Zg W w'):=λW f=>Zb3 W O A5 c5 _ (Yc h5.2.2 f)
 have C6:Hid (∀ W,Zg w W->Calls Tryz.prog 29 #[.slice A6 d.meta0.length c6] W λe w'=>e=.returned (.bool (Yr d.meta0.length&&d.meta0.all Xt))/\Zg W w'):=λW f=>Kk W O A6 c6 _ (Yc h6.2.2 f)
 have C7:Hid (∀ W,Zg w W->Calls Tryz.prog 29 #[.slice A7 d.unkMeta.length c7] W λe w'=>e=.returned (.bool (Yr d.unkMeta.length&&d.unkMeta.all Xt))/\Zg W w'):=λW f=>Kk W O A7 c7 _ (Yc h7.2.2 f)
 have C8:Hid (∀ W,Zg w W->Calls Tryz.prog 30 #[.slice A8 d.user.length c8] W λe w'=>e=.returned (.bool (Yr d.user.length&&d.user.all Wn))/\Zg W w'):=λW f=>Az W O A8 c8 _ (Yc h8.2.2 f)
 have l2:=h2.2.2.1;have l4:=h4.2.2.1;clear h h1 h2 h3 h4 h5 h6 h7 h8;unfold Yn;generalize (Yr d.words.length&&d.words.all Xg)=b1 at C1⊢;generalize (Yr d.classes.length&&d.classes.all Wf)=b3 at C3⊢;generalize (Yr d.unknown.length&&d.unknown.all Ua)=b5 at C5⊢;generalize (Yr d.meta0.length&&d.meta0.all Xt)=b6 at C6⊢;generalize (Yr d.unkMeta.length&&d.unkMeta.all Xt)=b7 at C7⊢;generalize (Yr d.user.length&&d.user.all Wn)=b8 at C8⊢;have X0:=(Fe w).alloc (.cells #[.slice A1 d.words.length c1,.int .i64 d.rows,.int .i64 d.cols,.slice A2 d.costs.length c2,.slice A3 d.classes.length c3,.slice A4 d.chars.length c4,.slice A5 d.unknown.length c5,.slice A6 d.meta0.length c6,.slice A7 d.unkMeta.length c7,.bool d.hasUser,.slice A8 d.user.length c8] 30);have B0:=alloc_at w (.cells #[.slice A1 d.words.length c1,.int .i64 d.rows,.int .i64 d.cols,.slice A2 d.costs.length c2,.slice A3 d.classes.length c3,.slice A4 d.chars.length c4,.slice A5 d.unknown.length c5,.slice A6 d.meta0.length c6,.slice A7 d.unkMeta.length c7,.bool d.hasUser,.slice A8 d.user.length c8] 30);have HX:=Hd (Ai1 X0 B0);clear X0 B0;obtain⟨b2,hl2⟩:∃ b,Yr d.costs.length=b:=⟨_,rfl⟩;rw[hl2];obtain⟨b4,hl4⟩:∃ b,Yr d.chars.length=b:=⟨_,rfl⟩;rw[hl4];cases b1;rotate_left;cases b2;rotate_left;cases b3;rotate_left;cases b4;rotate_left;cases b5;rotate_left;cases b6;rotate_left;cases b7;rotate_left;cases b8
 all_goals
  (try simp only[Yr,decide_eq_true_eq,decide_eq_false_iff_not]at hl2 hl4)
  go_enter Tryz.func9,Tryz.ntmps9
  go_wp2_with (first|(go_at_call 26;((with_reducible refine (C1.out _ HX.out.1).mono ?_);rintro e w1 ⟨rfl,hx⟩;have hb:=hx.heap HX.out.2 id;have k0:=cellAt hb 0 (.slice A1 d.words.length c1) rfl;have k3:=cellAt hb 3 (.slice A2 d.costs.length c2) rfl;have k4:=cellAt hb 4 (.slice A3 d.classes.length c3) rfl;have k5:=cellAt hb 5 (.slice A4 d.chars.length c4) rfl;have k6:=cellAt hb 6 (.slice A5 d.unknown.length c5) rfl;have k7:=cellAt hb 7 (.slice A6 d.meta0.length c6) rfl;have k8:=cellAt hb 8 (.slice A7 d.unkMeta.length c7) rfl;have k10:=cellAt hb 10 (.slice A8 d.user.length c8) rfl;have lb:=lt_of_cell k0;have HY:=Hd (Ai1 (HX.out.1.then hx) hb);clear hx hb))|(go_at_call 27;((with_reducible refine (C3.out _ HY.out.1).mono ?_);rintro e w1 ⟨rfl,hx⟩;have hb:=hx.heap HY.out.2 id;have k0:=cellAt hb 0 (.slice A1 d.words.length c1) rfl;have k3:=cellAt hb 3 (.slice A2 d.costs.length c2) rfl;have k4:=cellAt hb 4 (.slice A3 d.classes.length c3) rfl;have k5:=cellAt hb 5 (.slice A4 d.chars.length c4) rfl;have k6:=cellAt hb 6 (.slice A5 d.unknown.length c5) rfl;have k7:=cellAt hb 7 (.slice A6 d.meta0.length c6) rfl;have k8:=cellAt hb 8 (.slice A7 d.unkMeta.length c7) rfl;have k10:=cellAt hb 10 (.slice A8 d.user.length c8) rfl;have lb:=lt_of_cell k0;have HY:=Hd (Ai1 (HY.out.1.then hx) hb);clear hx hb))|(go_at_call 28;((with_reducible refine (C5.out _ HY.out.1).mono ?_);rintro e w1 ⟨rfl,hx⟩;have hb:=hx.heap HY.out.2 id;have k0:=cellAt hb 0 (.slice A1 d.words.length c1) rfl;have k3:=cellAt hb 3 (.slice A2 d.costs.length c2) rfl;have k4:=cellAt hb 4 (.slice A3 d.classes.length c3) rfl;have k5:=cellAt hb 5 (.slice A4 d.chars.length c4) rfl;have k6:=cellAt hb 6 (.slice A5 d.unknown.length c5) rfl;have k7:=cellAt hb 7 (.slice A6 d.meta0.length c6) rfl;have k8:=cellAt hb 8 (.slice A7 d.unkMeta.length c7) rfl;have k10:=cellAt hb 10 (.slice A8 d.user.length c8) rfl;have lb:=lt_of_cell k0;have HY:=Hd (Ai1 (HY.out.1.then hx) hb);clear hx hb))|(go_at_call 29;((with_reducible refine (C6.out _ HY.out.1).mono ?_);rintro e w1 ⟨rfl,hx⟩;have hb:=hx.heap HY.out.2 id;have k0:=cellAt hb 0 (.slice A1 d.words.length c1) rfl;have k3:=cellAt hb 3 (.slice A2 d.costs.length c2) rfl;have k4:=cellAt hb 4 (.slice A3 d.classes.length c3) rfl;have k5:=cellAt hb 5 (.slice A4 d.chars.length c4) rfl;have k6:=cellAt hb 6 (.slice A5 d.unknown.length c5) rfl;have k7:=cellAt hb 7 (.slice A6 d.meta0.length c6) rfl;have k8:=cellAt hb 8 (.slice A7 d.unkMeta.length c7) rfl;have k10:=cellAt hb 10 (.slice A8 d.user.length c8) rfl;have lb:=lt_of_cell k0;have HY:=Hd (Ai1 (HY.out.1.then hx) hb);clear hx hb))|(go_at_call 29;((with_reducible refine (C7.out _ HY.out.1).mono ?_);rintro e w1 ⟨rfl,hx⟩;have hb:=hx.heap HY.out.2 id;have k0:=cellAt hb 0 (.slice A1 d.words.length c1) rfl;have k3:=cellAt hb 3 (.slice A2 d.costs.length c2) rfl;have k4:=cellAt hb 4 (.slice A3 d.classes.length c3) rfl;have k5:=cellAt hb 5 (.slice A4 d.chars.length c4) rfl;have k6:=cellAt hb 6 (.slice A5 d.unknown.length c5) rfl;have k7:=cellAt hb 7 (.slice A6 d.meta0.length c6) rfl;have k8:=cellAt hb 8 (.slice A7 d.unkMeta.length c7) rfl;have k10:=cellAt hb 10 (.slice A8 d.user.length c8) rfl;have lb:=lt_of_cell k0;have HY:=Hd (Ai1 (HY.out.1.then hx) hb);clear hx hb))|(go_at_call 30;((with_reducible refine (C8.out _ HY.out.1).mono ?_);rintro e w1 ⟨rfl,hx⟩;have hb:=hx.heap HY.out.2 id;have k0:=cellAt hb 0 (.slice A1 d.words.length c1) rfl;have k3:=cellAt hb 3 (.slice A2 d.costs.length c2) rfl;have k4:=cellAt hb 4 (.slice A3 d.classes.length c3) rfl;have k5:=cellAt hb 5 (.slice A4 d.chars.length c4) rfl;have k6:=cellAt hb 6 (.slice A5 d.unknown.length c5) rfl;have k7:=cellAt hb 7 (.slice A6 d.meta0.length c6) rfl;have k8:=cellAt hb 8 (.slice A7 d.unkMeta.length c7) rfl;have k10:=cellAt hb 10 (.slice A8 d.user.length c8) rfl;have lb:=lt_of_cell k0;have HY:=Hd (Ai1 (HY.out.1.then hx) hb);clear hx hb))|fail)
  go_ret;exact⟨Zk (by simp),HY.out.1⟩
end Go.Proofs.YtoliamijgmifkaaGreatDoor
