/- The guards on sizes: what they -/
import Derived.Test.YtlfoalomaofejaaGreatDoorC1
import Derived.Handy
set_option linter.all false
set_option maxHeartbeats 2000000
set_option maxRecDepth 100000
namespace Go.Proofs.YtlfoalomaofejaaGreatDoor
open Go.RowKit DT
theorem Zh{a b:Bool}(h:a=b):Ending.returned (.bool a)=.returned (.bool b):=by rw[h]
theorem Y5{α:Type}(p:α->Bool)(xs:List α)(k:Nat)(hk:k<xs.length)(h:p xs[k]=false):xs.all p=false:=by
 rw[List.all_eq_false];exact⟨xs[k],List.getElem_mem hk,by simp[h]⟩
theorem Ys{α:Type}(p:α->Bool)(xs:List α)(k:Nat)(hk:k<xs.length)(h:(xs.take k).all p=true)(h1:p xs[k]=true):(xs.take (k+1)).all p=true:=by
 rw[List.take_succ_eq_append_getElem hk,List.all_append,h];simp[h1]
theorem cellAt{w:World}{b:Nat}{cs:Array Value}{T:TypeId}(h:w.heap[b]?=some (.cells cs T (0,0)))(j:Nat)(u:Value)(hj:cs[j]?=some u):w.cell? ⟨b,j,none⟩=some u:=by
 simp only[World.cell?,h];exact hj
def Yi(n:Nat):Bool:=decide (n<=2147483647)
theorem Oo{n:Nat}(h:n<=2147483647):Yi n=true:=by simpa [Yi] using h
theorem Oq{n:Nat}(h:¬ n<=2147483647):Yi n=false:=by simpa [Yi] using h
def Xj(xs:List ByteArray):Bool:=Yi xs.length&&xs.all λs=>Yi s.size
def Xb(x:GWord):Bool:=Yi x.surface.size&&(Xj x.pos&&Xj x.contents)
def Xy(x:Tm):Bool:=Yi x.name.size
def V0(x:GUnk):Bool:=Xj x.contents
def Xm(x:GMark):Bool:=Yi x.name.size
def Wh(x:GRec):Bool:=Yi x.text.size&&(Xj x.tokens&&(Xj x.yomi&&Yi x.pos.size))
def Yl(d:Zg):Bool:=(Yi d.words.length&&d.words.all Xb)&&(Yi d.costs.length&&((Yi d.classes.length&&d.classes.all Xy)&&(Yi d.chars.length&&((Yi d.unknown.length&&d.unknown.all V0)&&((Yi d.meta0.length&&d.meta0.all Xm)&&((Yi d.unkMeta.length&&d.unkMeta.all Xm)&&(Yi d.user.length&&d.user.all Wh)))))))
theorem Un(w:World)(O:Nat->Prop)(A:Option Addr)(c:Nat)(xs:List ByteArray)(h:Ty.str.At w O A xs) :
  Calls Tryz.prog 127 #[.slice A xs.length c] w λe w'=>e=.returned (.bool (Xj xs))/\w=w':=by
 have hm:=h.1;have HN:=Hd h;clear h;by_cases hl:xs.length<=2147483647
 ·go_enter Tryz.func127,Tryz.ntmps127
  go_wp2_with fail
  go_loop [10] (λi=>∃ k:Nat,k<=xs.length/\i=.int .i64 k/\Hid ((xs.take k).all (λs=>Yi s.size)=true)) (λi=>xs.length-(intOf i).toNat)
  case atStart=>exact⟨0,Nat.zero_le _,rfl,rfl⟩
  case round =>
   obtain⟨k,hk,rfl,HA⟩:=hrel;by_cases hlt:k<xs.length
   ·obtain⟨b,o,rfl,_,hbl,c0,_⟩:=Vw HN.out k hlt;by_cases hs:xs[k].size<=2147483647
    ·go_wp2_with fail
     go_round
     case rel=>exact⟨k+1,Om,by go_num,Ys _ _ _ hlt HA (Oo hs)⟩
     case measure=>simp[intOf];omega
    ·go_wp2_with fail
     go_ret;exact⟨Zh (by unfold Xj;rw[Y5 (λs:ByteArray=>Yi s.size) _ _ hlt (Oq hs)];simp),rfl⟩
   ·go_wp2_with fail
    go_ret;exact⟨Zh (by unfold Xj;rw[List.take_of_length_le Om]at HA;rw[HA.out,Oo hl];rfl),rfl⟩
 ·go_enter Tryz.func127,Tryz.ntmps127
  go_wp2_with fail
  go_ret;exact⟨Zh (by unfold Xj;rw[Oq hl];rfl),rfl⟩
theorem Ch(w:World)(O:Nat->Prop)(x:GWord)(cs:List Value)(h:tWord.R w O x cs):Calls Tryz.prog 92 #[.agg cs.toArray] w λe w'=>e=.returned (.bool (Xb x))/\Zf w w':=by
 obtain⟨p,q,rfl,h1,h2,hsz⟩:=Ua h;obtain⟨A0,c0,e0,_,_,a0⟩:=h1;cases e0;have C0:Hid (∀ W,Zf w W->Calls Tryz.prog 127 #[.slice A0 x.pos.length c0] W λe w'=>e=.returned (.bool (Xj x.pos))/\W=w'):=λW f=>Un W O A0 c0 _ (Z3 a0 f)
 clear a0;obtain⟨A1,c1,e1,_,_,a1⟩:=h2;cases e1;have C1:Hid (∀ W,Zf w W->Calls Tryz.prog 127 #[.slice A1 x.contents.length c1] W λe w'=>e=.returned (.bool (Xj x.contents))/\W=w'):=λW f=>Un W O A1 c1 _ (Z3 a1 f)
 clear a1;clear h;unfold Xb;generalize Xj x.pos=b0 at C0⊢;generalize Xj x.contents=b1 at C1⊢;obtain⟨l0,hl0⟩:∃ b,Yi (x.surface.size)=b:=⟨_,rfl⟩;rw[hl0];cases l0;rotate_left;cases b0;rotate_left;cases b1
 all_goals
  (try simp only[Yi,decide_eq_true_eq,decide_eq_false_iff_not]at hl0)
  go_enter Tryz.func92,Tryz.ntmps92
  go_wp2_with (first|(go_at_call 127;((with_reducible refine (C0.out _ ((Fl w).alloc _)).mono ?_);rintro e w' ⟨rfl,rfl⟩))|(go_at_call 127;((with_reducible refine (C1.out _ ((Fl w).alloc _)).mono ?_);rintro e w' ⟨rfl,rfl⟩))|fail)
  go_ret;exact⟨Zh (by simp),(Fl w).alloc _⟩
theorem Ck(w:World)(O:Nat->Prop)(x:Tm)(cs:List Value)(h:tClass.R w O x cs):Calls Tryz.prog 93 #[.agg cs.toArray] w λe w'=>e=.returned (.bool (Xy x))/\Zf w w':=by
 cases Q5 h;clear h;unfold Xy;obtain⟨l0,hl0⟩:∃ b,Yi (x.name.size)=b:=⟨_,rfl⟩;rw[hl0];cases l0
 all_goals
  (try simp only[Yi,decide_eq_true_eq,decide_eq_false_iff_not]at hl0)
  go_enter Tryz.func93,Tryz.ntmps93
  go_wp2_with (first|fail)
  go_ret;exact⟨Zh (by simp),(Fl w).alloc _⟩
theorem Cm(w:World)(O:Nat->Prop)(x:GUnk)(cs:List Value)(h:tUnk.R w O x cs):Calls Tryz.prog 94 #[.agg cs.toArray] w λe w'=>e=.returned (.bool (V0 x))/\Zf w w':=by
 obtain⟨q,rfl,h1⟩:=Rq h;obtain⟨A0,c0,e0,_,_,a0⟩:=h1;cases e0;have C0:Hid (∀ W,Zf w W->Calls Tryz.prog 127 #[.slice A0 x.contents.length c0] W λe w'=>e=.returned (.bool (Xj x.contents))/\W=w'):=λW f=>Un W O A0 c0 _ (Z3 a0 f)
 clear a0;clear h;unfold V0;generalize Xj x.contents=b0 at C0⊢;cases b0
 all_goals
  go_enter Tryz.func94,Tryz.ntmps94
  go_wp2_with (first|(go_at_call 127;((with_reducible refine (C0.out _ ((Fl w).alloc _)).mono ?_);rintro e w' ⟨rfl,rfl⟩))|fail)
  go_ret;exact⟨Zh (by simp),(Fl w).alloc _⟩
theorem Fq(w:World)(O:Nat->Prop)(x:GMark)(cs:List Value)(h:tMark.R w O x cs):Calls Tryz.prog 95 #[.agg cs.toArray] w λe w'=>e=.returned (.bool (Xm x))/\Zf w w':=by
 obtain⟨rfl,hsz,_,_⟩:=On h;clear h;unfold Xm;obtain⟨l0,hl0⟩:∃ b,Yi (x.name.size)=b:=⟨_,rfl⟩;rw[hl0];cases l0
 all_goals
  (try simp only[Yi,decide_eq_true_eq,decide_eq_false_iff_not]at hl0)
  go_enter Tryz.func95,Tryz.ntmps95
  go_wp2_with (first|fail)
  go_ret;exact⟨Zh (by simp),(Fl w).alloc _⟩
theorem Fm(w:World)(O:Nat->Prop)(x:GRec)(cs:List Value)(h:tRec.R w O x cs):Calls Tryz.prog 83 #[.agg cs.toArray] w λe w'=>e=.returned (.bool (Wh x))/\Zf w w':=by
 obtain⟨p,q,rfl,h1,h2,hsz,hsz2⟩:=Pt h;obtain⟨A0,c0,e0,_,_,a0⟩:=h1;cases e0;have C0:Hid (∀ W,Zf w W->Calls Tryz.prog 127 #[.slice A0 x.tokens.length c0] W λe w'=>e=.returned (.bool (Xj x.tokens))/\W=w'):=λW f=>Un W O A0 c0 _ (Z3 a0 f)
 clear a0;obtain⟨A1,c1,e1,_,_,a1⟩:=h2;cases e1;have C1:Hid (∀ W,Zf w W->Calls Tryz.prog 127 #[.slice A1 x.yomi.length c1] W λe w'=>e=.returned (.bool (Xj x.yomi))/\W=w'):=λW f=>Un W O A1 c1 _ (Z3 a1 f)
 clear a1;clear h;unfold Wh;generalize Xj x.tokens=b0 at C0⊢;generalize Xj x.yomi=b1 at C1⊢;obtain⟨l0,hl0⟩:∃ b,Yi (x.text.size)=b:=⟨_,rfl⟩;rw[hl0];obtain⟨l3,hl3⟩:∃ b,Yi (x.pos.size)=b:=⟨_,rfl⟩;rw[hl3];cases l0;rotate_left;cases b0;rotate_left;cases b1;rotate_left;cases l3
 all_goals
  (try simp only[Yi,decide_eq_true_eq,decide_eq_false_iff_not]at hl0 hl3)
  go_enter Tryz.func83,Tryz.ntmps83
  go_wp2_with (first|(go_at_call 127;((with_reducible refine (C0.out _ ((Fl w).alloc _)).mono ?_);rintro e w' ⟨rfl,rfl⟩))|(go_at_call 127;((with_reducible refine (C1.out _ ((Fl w).alloc _)).mono ?_);rintro e w' ⟨rfl,rfl⟩))|fail)
  go_ret;exact⟨Zh (by simp),(Fl w).alloc _⟩
theorem Cj(w:World)(O:Nat->Prop)(A:Option Addr)(c:Nat)(xs:List GWord)(h:tWord.At w O A xs):Calls Tryz.prog 36 #[.slice A xs.length c] w λe w'=>e=.returned (.bool (Yi xs.length&&xs.all Xb))/\Zf w w':=by
 have hm:=h.1;have HN:=Hd h;clear h;by_cases hl:xs.length<=2147483647
 ·go_enter Tryz.func36,Tryz.ntmps36
  go_wp2_with fail
  go_loopg [10] xs.length (λg1 i wr=>∃ k:Nat,i=.int .i64 k/\k<=xs.length/\xs.length<=k+g1/\Hid ((xs.take k).all Xb=true/\Zf w wr))
  case atStart=>exact⟨0,rfl,Nat.zero_le _,Om,rfl,Fl _⟩
  case round =>
   obtain⟨k,rfl,hk,hg,HA⟩:=hrel;by_cases hlt:k<xs.length
   ·rcases HN.out.2 with e|⟨b,o,rfl,_,hbl,hc⟩
    ·subst e;simp at hlt
    obtain⟨cs,hr,hcs⟩:=hc k hlt;obtain⟨x,hx⟩:∃ x,x=xs[k]:=⟨_,rfl⟩;rw[<- hx]at hr;obtain⟨p,q,rfl,h1,h2,_⟩:=Ua hr;obtain⟨A1,c1,e1,_⟩:=h1;cases e1;obtain⟨A2,c2,e2,_⟩:=h2;cases e2;have q0:wr.cell? ⟨b,o+k*6,none⟩=some _:=HA.out.2.cell (hcs 0 (by simp)) id;have q1:wr.cell? ⟨b,o+k*6+1,none⟩=some _:=HA.out.2.cell (hcs 1 (by simp)) id;have q2:wr.cell? ⟨b,o+k*6+2,none⟩=some _:=HA.out.2.cell (hcs 2 (by simp)) id;have q3:wr.cell? ⟨b,o+k*6+3,none⟩=some _:=HA.out.2.cell (hcs 3 (by simp)) id;have q4:wr.cell? ⟨b,o+k*6+4,none⟩=some _:=HA.out.2.cell (hcs 4 (by simp)) id;have q5:wr.cell? ⟨b,o+k*6+5,none⟩=some _:=HA.out.2.cell (hcs 5 (by simp)) id;have hbl2:b<wr.heap.size:=Nat.lt_of_lt_of_le hbl HA.out.2.size;have HS:Hid (∀ W,Zf wr W->Calls Tryz.prog 92 #[.agg _] W λe w'=>e=.returned (.bool (Xb x))/\Zf W w'):=λW f=>Ch W O x _ (tWord.ext hr (HA.out.2.then f))
    have HP:Hid (Xb xs[k]=Xb x):=by rw[hx];rfl
    clear hc hcs hr hx;cases hv:Xb x
    ·rw[hv]at HS HP;clear hv;go_wp2_with (first|(go_at_call 92;refine (HS.out _ ((Fl wr).alloc _)).mono ?_;rintro e w1 ⟨rfl,hx1⟩;have HX1:=Hd hx1;clear hx1)|fail)
     go_ret;exact⟨Zh (by rw[Y5 _ _ _ hlt HP.out];simp),(HA.out.2.alloc _).then HX1.out⟩
    ·rw[hv]at HS HP;clear hv;go_wp2_with (first|(go_at_call 92;refine (HS.out _ ((Fl wr).alloc _)).mono ?_;rintro e w1 ⟨rfl,hx1⟩;have HX1:=Hd hx1;clear hx1)|fail)
     go_roundg (xs.length-(k+1))
     case measure=>omega
     case rel=>exact⟨k+1,by go_num,Om,Om,Ys _ _ _ hlt HA.out.1 HP.out,(HA.out.2.alloc _).then HX1.out⟩
   ·go_wp2_with fail
    go_ret;have e:=HA.out.1;rw[List.take_of_length_le Om]at e;exact⟨Zh (by rw[e,Oo hl];rfl),HA.out.2⟩
 ·go_enter Tryz.func36,Tryz.ntmps36
  go_wp2_with fail
  go_ret;exact⟨Zh (by rw[Oq hl];rfl),Fl _⟩
theorem Cl(w:World)(O:Nat->Prop)(A:Option Addr)(c:Nat)(xs:List Tm)(h:tClass.At w O A xs):Calls Tryz.prog 37 #[.slice A xs.length c] w λe w'=>e=.returned (.bool (Yi xs.length&&xs.all Xy))/\Zf w w':=by
 have hm:=h.1;have HN:=Hd h;clear h;by_cases hl:xs.length<=2147483647
 ·go_enter Tryz.func37,Tryz.ntmps37
  go_wp2_with fail
  go_loopg [10] xs.length (λg1 i wr=>∃ k:Nat,i=.int .i64 k/\k<=xs.length/\xs.length<=k+g1/\Hid ((xs.take k).all Xy=true/\Zf w wr))
  case atStart=>exact⟨0,rfl,Nat.zero_le _,Om,rfl,Fl _⟩
  case round =>
   obtain⟨k,rfl,hk,hg,HA⟩:=hrel;by_cases hlt:k<xs.length
   ·rcases HN.out.2 with e|⟨b,o,rfl,_,hbl,hc⟩
    ·subst e;simp at hlt
    obtain⟨cs,hr,hcs⟩:=hc k hlt;obtain⟨x,hx⟩:∃ x,x=xs[k]:=⟨_,rfl⟩;rw[<- hx]at hr;obtain rfl:=Q5 hr;have q0:wr.cell? ⟨b,o+k*3,none⟩=some _:=HA.out.2.cell (hcs 0 (by simp)) id;have q1:wr.cell? ⟨b,o+k*3+1,none⟩=some _:=HA.out.2.cell (hcs 1 (by simp)) id;have q2:wr.cell? ⟨b,o+k*3+2,none⟩=some _:=HA.out.2.cell (hcs 2 (by simp)) id;have hbl2:b<wr.heap.size:=Nat.lt_of_lt_of_le hbl HA.out.2.size;have HS:Hid (∀ W,Zf wr W->Calls Tryz.prog 93 #[.agg _] W λe w'=>e=.returned (.bool (Xy x))/\Zf W w'):=λW f=>Ck W O x _ (tClass.ext hr (HA.out.2.then f))
    have HP:Hid (Xy xs[k]=Xy x):=by rw[hx];rfl
    clear hc hcs hr hx;cases hv:Xy x
    ·rw[hv]at HS HP;clear hv;go_wp2_with (first|(go_at_call 93;refine (HS.out _ ((Fl wr).alloc _)).mono ?_;rintro e w1 ⟨rfl,hx1⟩;have HX1:=Hd hx1;clear hx1)|fail)
     go_ret;exact⟨Zh (by rw[Y5 _ _ _ hlt HP.out];simp),(HA.out.2.alloc _).then HX1.out⟩
    ·rw[hv]at HS HP;clear hv;go_wp2_with (first|(go_at_call 93;refine (HS.out _ ((Fl wr).alloc _)).mono ?_;rintro e w1 ⟨rfl,hx1⟩;have HX1:=Hd hx1;clear hx1)|fail)
     go_roundg (xs.length-(k+1))
     case measure=>omega
     case rel=>exact⟨k+1,by go_num,Om,Om,Ys _ _ _ hlt HA.out.1 HP.out,(HA.out.2.alloc _).then HX1.out⟩
   ·go_wp2_with fail
    go_ret;have e:=HA.out.1;rw[List.take_of_length_le Om]at e;exact⟨Zh (by rw[e,Oo hl];rfl),HA.out.2⟩
 ·go_enter Tryz.func37,Tryz.ntmps37
  go_wp2_with fail
  go_ret;exact⟨Zh (by rw[Oq hl];rfl),Fl _⟩
theorem Cn(w:World)(O:Nat->Prop)(A:Option Addr)(c:Nat)(xs:List GUnk)(h:tUnk.At w O A xs):Calls Tryz.prog 38 #[.slice A xs.length c] w λe w'=>e=.returned (.bool (Yi xs.length&&xs.all V0))/\Zf w w':=by
 have hm:=h.1;have HN:=Hd h;clear h;by_cases hl:xs.length<=2147483647
 ·go_enter Tryz.func38,Tryz.ntmps38
  go_wp2_with fail
  go_loopg [10] xs.length (λg1 i wr=>∃ k:Nat,i=.int .i64 k/\k<=xs.length/\xs.length<=k+g1/\Hid ((xs.take k).all V0=true/\Zf w wr))
  case atStart=>exact⟨0,rfl,Nat.zero_le _,Om,rfl,Fl _⟩
  case round =>
   obtain⟨k,rfl,hk,hg,HA⟩:=hrel;by_cases hlt:k<xs.length
   ·rcases HN.out.2 with e|⟨b,o,rfl,_,hbl,hc⟩
    ·subst e;simp at hlt
    obtain⟨cs,hr,hcs⟩:=hc k hlt;obtain⟨x,hx⟩:∃ x,x=xs[k]:=⟨_,rfl⟩;rw[<- hx]at hr;obtain⟨q,rfl,h1⟩:=Rq hr;obtain⟨A1,c1,e1,_⟩:=h1;cases e1;have q0:wr.cell? ⟨b,o+k*5,none⟩=some _:=HA.out.2.cell (hcs 0 (by simp)) id;have q1:wr.cell? ⟨b,o+k*5+1,none⟩=some _:=HA.out.2.cell (hcs 1 (by simp)) id;have q2:wr.cell? ⟨b,o+k*5+2,none⟩=some _:=HA.out.2.cell (hcs 2 (by simp)) id;have q3:wr.cell? ⟨b,o+k*5+3,none⟩=some _:=HA.out.2.cell (hcs 3 (by simp)) id;have q4:wr.cell? ⟨b,o+k*5+4,none⟩=some _:=HA.out.2.cell (hcs 4 (by simp)) id;have hbl2:b<wr.heap.size:=Nat.lt_of_lt_of_le hbl HA.out.2.size;have HS:Hid (∀ W,Zf wr W->Calls Tryz.prog 94 #[.agg _] W λe w'=>e=.returned (.bool (V0 x))/\Zf W w'):=λW f=>Cm W O x _ (tUnk.ext hr (HA.out.2.then f))
    have HP:Hid (V0 xs[k]=V0 x):=by rw[hx];rfl
    clear hc hcs hr hx;cases hv:V0 x
    ·rw[hv]at HS HP;clear hv;go_wp2_with (first|(go_at_call 94;refine (HS.out _ ((Fl wr).alloc _)).mono ?_;rintro e w1 ⟨rfl,hx1⟩;have HX1:=Hd hx1;clear hx1)|fail)
     go_ret;exact⟨Zh (by rw[Y5 _ _ _ hlt HP.out];simp),(HA.out.2.alloc _).then HX1.out⟩
    ·rw[hv]at HS HP;clear hv;go_wp2_with (first|(go_at_call 94;refine (HS.out _ ((Fl wr).alloc _)).mono ?_;rintro e w1 ⟨rfl,hx1⟩;have HX1:=Hd hx1;clear hx1)|fail)
     go_roundg (xs.length-(k+1))
     case measure=>omega
     case rel=>exact⟨k+1,by go_num,Om,Om,Ys _ _ _ hlt HA.out.1 HP.out,(HA.out.2.alloc _).then HX1.out⟩
   ·go_wp2_with fail
    go_ret;have e:=HA.out.1;rw[List.take_of_length_le Om]at e;exact⟨Zh (by rw[e,Oo hl];rfl),HA.out.2⟩
 ·go_enter Tryz.func38,Tryz.ntmps38
  go_wp2_with fail
  go_ret;exact⟨Zh (by rw[Oq hl];rfl),Fl _⟩
theorem Nc(w:World)(O:Nat->Prop)(A:Option Addr)(c:Nat)(xs:List GMark)(h:tMark.At w O A xs):Calls Tryz.prog 39 #[.slice A xs.length c] w λe w'=>e=.returned (.bool (Yi xs.length&&xs.all Xm))/\Zf w w':=by
 have hm:=h.1;have HN:=Hd h;clear h;by_cases hl:xs.length<=2147483647
 ·go_enter Tryz.func39,Tryz.ntmps39
  go_wp2_with fail
  go_loopg [10] xs.length (λg1 i wr=>∃ k:Nat,i=.int .i64 k/\k<=xs.length/\xs.length<=k+g1/\Hid ((xs.take k).all Xm=true/\Zf w wr))
  case atStart=>exact⟨0,rfl,Nat.zero_le _,Om,rfl,Fl _⟩
  case round =>
   obtain⟨k,rfl,hk,hg,HA⟩:=hrel;by_cases hlt:k<xs.length
   ·rcases HN.out.2 with e|⟨b,o,rfl,_,hbl,hc⟩
    ·subst e;simp at hlt
    obtain⟨cs,hr,hcs⟩:=hc k hlt;obtain⟨x,hx⟩:∃ x,x=xs[k]:=⟨_,rfl⟩;rw[<- hx]at hr;obtain⟨rfl,_⟩:=On hr;have q0:wr.cell? ⟨b,o+k*2,none⟩=some _:=HA.out.2.cell (hcs 0 (by simp)) id;have q1:wr.cell? ⟨b,o+k*2+1,none⟩=some _:=HA.out.2.cell (hcs 1 (by simp)) id;have hbl2:b<wr.heap.size:=Nat.lt_of_lt_of_le hbl HA.out.2.size;have HS:Hid (∀ W,Zf wr W->Calls Tryz.prog 95 #[.agg _] W λe w'=>e=.returned (.bool (Xm x))/\Zf W w'):=λW f=>Fq W O x _ (tMark.ext hr (HA.out.2.then f))
    have HP:Hid (Xm xs[k]=Xm x):=by rw[hx];rfl
    clear hc hcs hr hx;cases hv:Xm x
    ·rw[hv]at HS HP;clear hv;go_wp2_with (first|(go_at_call 95;refine (HS.out _ ((Fl wr).alloc _)).mono ?_;rintro e w1 ⟨rfl,hx1⟩;have HX1:=Hd hx1;clear hx1)|fail)
     go_ret;exact⟨Zh (by rw[Y5 _ _ _ hlt HP.out];simp),(HA.out.2.alloc _).then HX1.out⟩
    ·rw[hv]at HS HP;clear hv;go_wp2_with (first|(go_at_call 95;refine (HS.out _ ((Fl wr).alloc _)).mono ?_;rintro e w1 ⟨rfl,hx1⟩;have HX1:=Hd hx1;clear hx1)|fail)
     go_roundg (xs.length-(k+1))
     case measure=>omega
     case rel=>exact⟨k+1,by go_num,Om,Om,Ys _ _ _ hlt HA.out.1 HP.out,(HA.out.2.alloc _).then HX1.out⟩
   ·go_wp2_with fail
    go_ret;have e:=HA.out.1;rw[List.take_of_length_le Om]at e;exact⟨Zh (by rw[e,Oo hl];rfl),HA.out.2⟩
 ·go_enter Tryz.func39,Tryz.ntmps39
  go_wp2_with fail
  go_ret;exact⟨Zh (by rw[Oq hl];rfl),Fl _⟩
theorem Fo(w:World)(O:Nat->Prop)(A:Option Addr)(c:Nat)(xs:List GRec)(h:tRec.At w O A xs):Calls Tryz.prog 26 #[.slice A xs.length c] w λe w'=>e=.returned (.bool (Yi xs.length&&xs.all Wh))/\Zf w w':=by
 have hm:=h.1;have HN:=Hd h;clear h;by_cases hl:xs.length<=2147483647
 ·go_enter Tryz.func26,Tryz.ntmps26
  go_wp2_with fail
  go_loopg [10] xs.length (λg1 i wr=>∃ k:Nat,i=.int .i64 k/\k<=xs.length/\xs.length<=k+g1/\Hid ((xs.take k).all Wh=true/\Zf w wr))
  case atStart=>exact⟨0,rfl,Nat.zero_le _,Om,rfl,Fl _⟩
  case round =>
   obtain⟨k,rfl,hk,hg,HA⟩:=hrel;by_cases hlt:k<xs.length
   ·rcases HN.out.2 with e|⟨b,o,rfl,_,hbl,hc⟩
    ·subst e;simp at hlt
    obtain⟨cs,hr,hcs⟩:=hc k hlt;obtain⟨x,hx⟩:∃ x,x=xs[k]:=⟨_,rfl⟩;rw[<- hx]at hr;obtain⟨p,q,rfl,h1,h2,_⟩:=Pt hr;obtain⟨A1,c1,e1,_⟩:=h1;cases e1;obtain⟨A2,c2,e2,_⟩:=h2;cases e2;have q0:wr.cell? ⟨b,o+k*4,none⟩=some _:=HA.out.2.cell (hcs 0 (by simp)) id;have q1:wr.cell? ⟨b,o+k*4+1,none⟩=some _:=HA.out.2.cell (hcs 1 (by simp)) id;have q2:wr.cell? ⟨b,o+k*4+2,none⟩=some _:=HA.out.2.cell (hcs 2 (by simp)) id;have q3:wr.cell? ⟨b,o+k*4+3,none⟩=some _:=HA.out.2.cell (hcs 3 (by simp)) id;have hbl2:b<wr.heap.size:=Nat.lt_of_lt_of_le hbl HA.out.2.size;have HS:Hid (∀ W,Zf wr W->Calls Tryz.prog 83 #[.agg _] W λe w'=>e=.returned (.bool (Wh x))/\Zf W w'):=λW f=>Fm W O x _ (tRec.ext hr (HA.out.2.then f))
    have HP:Hid (Wh xs[k]=Wh x):=by rw[hx];rfl
    clear hc hcs hr hx;cases hv:Wh x
    ·rw[hv]at HS HP;clear hv;go_wp2_with (first|(go_at_call 83;refine (HS.out _ ((Fl wr).alloc _)).mono ?_;rintro e w1 ⟨rfl,hx1⟩;have HX1:=Hd hx1;clear hx1)|fail)
     go_ret;exact⟨Zh (by rw[Y5 _ _ _ hlt HP.out];simp),(HA.out.2.alloc _).then HX1.out⟩
    ·rw[hv]at HS HP;clear hv;go_wp2_with (first|(go_at_call 83;refine (HS.out _ ((Fl wr).alloc _)).mono ?_;rintro e w1 ⟨rfl,hx1⟩;have HX1:=Hd hx1;clear hx1)|fail)
     go_roundg (xs.length-(k+1))
     case measure=>omega
     case rel=>exact⟨k+1,by go_num,Om,Om,Ys _ _ _ hlt HA.out.1 HP.out,(HA.out.2.alloc _).then HX1.out⟩
   ·go_wp2_with fail
    go_ret;have e:=HA.out.1;rw[List.take_of_length_le Om]at e;exact⟨Zh (by rw[e,Oo hl];rfl),HA.out.2⟩
 ·go_enter Tryz.func26,Tryz.ntmps26
  go_wp2_with fail
  go_ret;exact⟨Zh (by rw[Oq hl];rfl),Fl _⟩
theorem Fp(w:World)(O:Nat->Prop)(d:Zg)(cs:List Value)(h:tDict.R w O d cs):Calls Tryz.prog 8 #[.agg cs.toArray] w λe w'=>e=.returned (.bool (Yl d))/\Zf w w':=by
 obtain⟨A1,c1,A2,c2,A3,c3,A4,c4,A5,c5,A6,c6,A7,c7,A8,c8,rfl,h1,h2,h3,h4,h5,h6,h7,h8,_⟩:=Yy h;have C1:Hid (∀ W,Zf w W->Calls Tryz.prog 36 #[.slice A1 d.words.length c1] W λe w'=>e=.returned (.bool (Yi d.words.length&&d.words.all Xb))/\Zf W w'):=λW f=>Cj W O A1 c1 _ (Z3 h1.2.2 f)
 have C3:Hid (∀ W,Zf w W->Calls Tryz.prog 37 #[.slice A3 d.classes.length c3] W λe w'=>e=.returned (.bool (Yi d.classes.length&&d.classes.all Xy))/\Zf W w'):=λW f=>Cl W O A3 c3 _ (Z3 h3.2.2 f)
 have C5:Hid (∀ W,Zf w W->Calls Tryz.prog 38 #[.slice A5 d.unknown.length c5] W λe w'=>e=.returned (.bool (Yi d.unknown.length&&d.unknown.all V0))/\Zf W w'):=λW f=>Cn W O A5 c5 _ (Z3 h5.2.2 f)
 have C6:Hid (∀ W,Zf w W->Calls Tryz.prog 39 #[.slice A6 d.meta0.length c6] W λe w'=>e=.returned (.bool (Yi d.meta0.length&&d.meta0.all Xm))/\Zf W w'):=λW f=>Nc W O A6 c6 _ (Z3 h6.2.2 f)
 have C7:Hid (∀ W,Zf w W->Calls Tryz.prog 39 #[.slice A7 d.unkMeta.length c7] W λe w'=>e=.returned (.bool (Yi d.unkMeta.length&&d.unkMeta.all Xm))/\Zf W w'):=λW f=>Nc W O A7 c7 _ (Z3 h7.2.2 f)
 have C8:Hid (∀ W,Zf w W->Calls Tryz.prog 26 #[.slice A8 d.user.length c8] W λe w'=>e=.returned (.bool (Yi d.user.length&&d.user.all Wh))/\Zf W w'):=λW f=>Fo W O A8 c8 _ (Z3 h8.2.2 f)
 have l2:=h2.2.2.1;have l4:=h4.2.2.1;clear h h1 h2 h3 h4 h5 h6 h7 h8;unfold Yl;generalize (Yi d.words.length&&d.words.all Xb)=b1 at C1⊢;generalize (Yi d.classes.length&&d.classes.all Xy)=b3 at C3⊢;generalize (Yi d.unknown.length&&d.unknown.all V0)=b5 at C5⊢;generalize (Yi d.meta0.length&&d.meta0.all Xm)=b6 at C6⊢;generalize (Yi d.unkMeta.length&&d.unkMeta.all Xm)=b7 at C7⊢;generalize (Yi d.user.length&&d.user.all Wh)=b8 at C8⊢;have X0:=(Fe w).alloc (.cells #[.slice A1 d.words.length c1,.int .i64 d.rows,.int .i64 d.cols,.slice A2 d.costs.length c2,.slice A3 d.classes.length c3,.slice A4 d.chars.length c4,.slice A5 d.unknown.length c5,.slice A6 d.meta0.length c6,.slice A7 d.unkMeta.length c7,.bool d.hasUser,.slice A8 d.user.length c8] 30);have B0:=alloc_at w (.cells #[.slice A1 d.words.length c1,.int .i64 d.rows,.int .i64 d.cols,.slice A2 d.costs.length c2,.slice A3 d.classes.length c3,.slice A4 d.chars.length c4,.slice A5 d.unknown.length c5,.slice A6 d.meta0.length c6,.slice A7 d.unkMeta.length c7,.bool d.hasUser,.slice A8 d.user.length c8] 30);have HX:=Hd (Ai1 X0 B0);clear X0 B0;obtain⟨b2,hl2⟩:∃ b,Yi d.costs.length=b:=⟨_,rfl⟩;rw[hl2];obtain⟨b4,hl4⟩:∃ b,Yi d.chars.length=b:=⟨_,rfl⟩;rw[hl4];cases b1;rotate_left;cases b2;rotate_left;cases b3;rotate_left;cases b4;rotate_left;cases b5;rotate_left;cases b6;rotate_left;cases b7;rotate_left;cases b8
 all_goals
  (try simp only[Yi,decide_eq_true_eq,decide_eq_false_iff_not]at hl2 hl4)
  go_enter Tryz.func8,Tryz.ntmps8
  go_wp2_with (first|(go_at_call 36;((with_reducible refine (C1.out _ HX.out.1).mono ?_);rintro e w1 ⟨rfl,hx⟩;have hb:=hx.heap HX.out.2 id;have k0:=cellAt hb 0 (.slice A1 d.words.length c1) rfl;have k3:=cellAt hb 3 (.slice A2 d.costs.length c2) rfl;have k4:=cellAt hb 4 (.slice A3 d.classes.length c3) rfl;have k5:=cellAt hb 5 (.slice A4 d.chars.length c4) rfl;have k6:=cellAt hb 6 (.slice A5 d.unknown.length c5) rfl;have k7:=cellAt hb 7 (.slice A6 d.meta0.length c6) rfl;have k8:=cellAt hb 8 (.slice A7 d.unkMeta.length c7) rfl;have k10:=cellAt hb 10 (.slice A8 d.user.length c8) rfl;have lb:=lt_of_cell k0;have HY:=Hd (Ai1 (HX.out.1.then hx) hb);clear hx hb))|(go_at_call 37;((with_reducible refine (C3.out _ HY.out.1).mono ?_);rintro e w1 ⟨rfl,hx⟩;have hb:=hx.heap HY.out.2 id;have k0:=cellAt hb 0 (.slice A1 d.words.length c1) rfl;have k3:=cellAt hb 3 (.slice A2 d.costs.length c2) rfl;have k4:=cellAt hb 4 (.slice A3 d.classes.length c3) rfl;have k5:=cellAt hb 5 (.slice A4 d.chars.length c4) rfl;have k6:=cellAt hb 6 (.slice A5 d.unknown.length c5) rfl;have k7:=cellAt hb 7 (.slice A6 d.meta0.length c6) rfl;have k8:=cellAt hb 8 (.slice A7 d.unkMeta.length c7) rfl;have k10:=cellAt hb 10 (.slice A8 d.user.length c8) rfl;have lb:=lt_of_cell k0;have HY:=Hd (Ai1 (HY.out.1.then hx) hb);clear hx hb))|(go_at_call 38;((with_reducible refine (C5.out _ HY.out.1).mono ?_);rintro e w1 ⟨rfl,hx⟩;have hb:=hx.heap HY.out.2 id;have k0:=cellAt hb 0 (.slice A1 d.words.length c1) rfl;have k3:=cellAt hb 3 (.slice A2 d.costs.length c2) rfl;have k4:=cellAt hb 4 (.slice A3 d.classes.length c3) rfl;have k5:=cellAt hb 5 (.slice A4 d.chars.length c4) rfl;have k6:=cellAt hb 6 (.slice A5 d.unknown.length c5) rfl;have k7:=cellAt hb 7 (.slice A6 d.meta0.length c6) rfl;have k8:=cellAt hb 8 (.slice A7 d.unkMeta.length c7) rfl;have k10:=cellAt hb 10 (.slice A8 d.user.length c8) rfl;have lb:=lt_of_cell k0;have HY:=Hd (Ai1 (HY.out.1.then hx) hb);clear hx hb))|(go_at_call 39;((with_reducible refine (C6.out _ HY.out.1).mono ?_);rintro e w1 ⟨rfl,hx⟩;have hb:=hx.heap HY.out.2 id;have k0:=cellAt hb 0 (.slice A1 d.words.length c1) rfl;have k3:=cellAt hb 3 (.slice A2 d.costs.length c2) rfl;have k4:=cellAt hb 4 (.slice A3 d.classes.length c3) rfl;have k5:=cellAt hb 5 (.slice A4 d.chars.length c4) rfl;have k6:=cellAt hb 6 (.slice A5 d.unknown.length c5) rfl;have k7:=cellAt hb 7 (.slice A6 d.meta0.length c6) rfl;have k8:=cellAt hb 8 (.slice A7 d.unkMeta.length c7) rfl;have k10:=cellAt hb 10 (.slice A8 d.user.length c8) rfl;have lb:=lt_of_cell k0;have HY:=Hd (Ai1 (HY.out.1.then hx) hb);clear hx hb))|(go_at_call 39;((with_reducible refine (C7.out _ HY.out.1).mono ?_);rintro e w1 ⟨rfl,hx⟩;have hb:=hx.heap HY.out.2 id;have k0:=cellAt hb 0 (.slice A1 d.words.length c1) rfl;have k3:=cellAt hb 3 (.slice A2 d.costs.length c2) rfl;have k4:=cellAt hb 4 (.slice A3 d.classes.length c3) rfl;have k5:=cellAt hb 5 (.slice A4 d.chars.length c4) rfl;have k6:=cellAt hb 6 (.slice A5 d.unknown.length c5) rfl;have k7:=cellAt hb 7 (.slice A6 d.meta0.length c6) rfl;have k8:=cellAt hb 8 (.slice A7 d.unkMeta.length c7) rfl;have k10:=cellAt hb 10 (.slice A8 d.user.length c8) rfl;have lb:=lt_of_cell k0;have HY:=Hd (Ai1 (HY.out.1.then hx) hb);clear hx hb))|(go_at_call 26;((with_reducible refine (C8.out _ HY.out.1).mono ?_);rintro e w1 ⟨rfl,hx⟩;have hb:=hx.heap HY.out.2 id;have k0:=cellAt hb 0 (.slice A1 d.words.length c1) rfl;have k3:=cellAt hb 3 (.slice A2 d.costs.length c2) rfl;have k4:=cellAt hb 4 (.slice A3 d.classes.length c3) rfl;have k5:=cellAt hb 5 (.slice A4 d.chars.length c4) rfl;have k6:=cellAt hb 6 (.slice A5 d.unknown.length c5) rfl;have k7:=cellAt hb 7 (.slice A6 d.meta0.length c6) rfl;have k8:=cellAt hb 8 (.slice A7 d.unkMeta.length c7) rfl;have k10:=cellAt hb 10 (.slice A8 d.user.length c8) rfl;have lb:=lt_of_cell k0;have HY:=Hd (Ai1 (HY.out.1.then hx) hb);clear hx hb))|fail)
  go_ret;exact⟨Zh (by simp),HY.out.1⟩
end Go.Proofs.YtlfoalomaofejaaGreatDoor
