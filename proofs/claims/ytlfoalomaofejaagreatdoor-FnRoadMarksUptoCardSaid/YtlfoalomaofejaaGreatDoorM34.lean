/- laws.fine (over what laws.righ -/
import Derived.Test.YtlfoalomaofejaaGreatDoorM33
set_option linter.all false
set_option maxRecDepth 100000
set_option maxHeartbeats 4000000
namespace Go.Proofs.YtlfoalomaofejaaGreatDoor
open Go.RowKit DT SS TR LT UC
def Qw(r:Nat):Bool:=decide (r<=32)||(r==133||(r==160||(r==12288||((decide (8192<=r)&&decide (r<=8203))||(r==8232||(r==8233||(r==8239||(r==8287||(r==5760||r==65533)))))))))
def N1(u:GRec):Bool:=(Zd u.text).all (λc=>!Qw (Xi c))&&(decide (1<=u.tokens.length)&&decide (u.tokens.length=u.yomi.length))
def N9(xs:List ByteArray)(i:Nat):Bool:=match xs[i]? with
 | none=>true
 | some s=>(decide (s.size≠0)&&Wk s)&&(i==0||match xs[i-1]? with|none=>true|some p=>!Op.bytesLess s.toList p.toList && !(s.toList==p.toList))
def Hy(xs:List ByteArray):Bool:=(List.range xs.length).all (N9 xs)&&decide (0<xs.length)
def ruB(us:List GRec):Bool:=us.all N1&&Hy (us.map λu=>u.text)
def Wv(x:GWord):Bool:=decide (x.surface.size≠0)&&Wk x.surface
def Uf(d:Zg)(xs:List ByteArray):Bool:=xs.all rdB&&(d.words.all Wv&&((!d.hasUser||ruB d.user)&&(Xx d&&Zl d)))
theorem Zci{x:GWord}(h:¬ x.surface.size≠0):Wv x=false:=by
 unfold Wv;rw[decide_eq_false h];rfl
theorem Zhk(W:World)(s:ByteArray)(A:s.size<=2147483647):Calls Tryz.prog 41 #[.slice (some ⟨W.heap.size,0,none⟩) 1 1] (W.alloc (.cells #[.string s] 9)) λe w'=>e=.returned (.bool (Wk s))/\W.alloc (.cells #[.string s] 9)=w':=by
 have B:=alloc_at W (.cells #[.string s] 9);have z:=Za W (.cells #[.string s] 9)
 have:=Ea (W.alloc (.cells #[.string s] 9)) (λ_=>True) (some ⟨W.heap.size,0,none⟩) 1 [s] (by
  refine⟨by simp,Or.inr ⟨W.heap.size,0,rfl,trivial,by rw[z];omega,?_⟩⟩;intro k G;have h:k=0:=by simpa using G
  subst h;refine⟨[.string s],⟨rfl,Nt A (by decide)⟩,?_⟩;intro j I;have q:j=0:=by simpa using I
  subst q
  exact cellAt B 0 _ rfl)
 have e:Nm [s]=Wk s:=by unfold Nm;simp
 rw[e]at this;exact this
theorem Zj6(w:World)(O Oi:Nat->Prop)(d:Zg)(cs:List Value)(A:Option Addr)(c:Nat)(xs:List ByteArray)(h:tDict.R w O d cs)(L:Yb d=true)(hT:U8 w)(hx:Ty.str.At w Oi A xs)
  (ak:∀ (W:World) (B:Option Addr) (k:Nat),tRec.At W O B d.user->Calls Tryz.prog 28 #[.slice B d.user.length k] W λe w'=>e=.returned (.bool (ruB d.user))/\Zf W w') :
  Calls Tryz.prog 9 #[.agg cs.toArray,.slice A xs.length c] w λe w'=>e=.returned (.bool (Uf d xs))/\Zf w w':=by
 have aj:d.meta0.length<=2147483647/\d.unkMeta.length<=2147483647:=by
  have L:=L;unfold Yb at L;simp only[Bool.and_eq_true]at L;exact⟨by simpa [Yl] using L.2.2.2.2.2.1.1,by simpa [Yl] using L.2.2.2.2.2.2.1.1⟩
 have ap:d.words.length<=2147483647:=by
  have L:=L;unfold Yb at L;simp only[Bool.and_eq_true]at L;simpa [Yl] using L.1.1
 have HF:Hid (∀ x∈d.words,Xk x=true):=by
  have L:=L;unfold Yb at L;simp only[Bool.and_eq_true]at L;exact λx hx=>List.all_eq_true.1 L.1.2 x hx
 have CS:Hid (∀ W,Zf w W->Calls Tryz.prog 15 #[.agg cs.toArray] W λe w'=>e=.returned (.bool (Xx d))/\Zf W w'):=λW f=>Hu W O d cs (tDict.ext h f) L
 have CT:Hid (∀ W,Zf w W->Calls Tryz.prog 16 #[.agg cs.toArray] W λe w'=>e=.returned (.bool (Zl d))/\Zf W w'):=λW f=>Lk d cs O W (tDict.ext h f) (hT.ext f) aj
 have CR:Hid (∀ (s:ByteArray) (W:World),s.size<=9223372036854775807->Calls Tryz.prog 40 #[.string s] W λe w'=>e=.returned (.bool (rdB s))/\Zf W w'):=λs W hs=>Dr s W hs
 obtain⟨A1,c1,A2,c2,A3,c3,A4,c4,A5,c5,A6,c6,A7,c7,Z,Y,rfl,h1,h2,h3,h4,h5,h6,h7,h8,_⟩:=Y4 h;have aa:Hid (∀ W,Zf w W->Calls Tryz.prog 15 #[.agg #[.slice A1 d.words.length c1,.int .i64 d.rows,.int .i64 d.cols,.slice A2 d.costs.length c2,.slice A3 d.classes.length c3,.slice A4 d.chars.length c4,.slice A5 d.unknown.length c5,.slice A6 d.meta0.length c6,.slice A7 d.unkMeta.length c7,.bool d.hasUser,.slice Z d.user.length Y]] W λe w'=>e=.returned (.bool (Xx d))/\Zf W w'):=CS;have af:Hid (∀ W,Zf w W->Calls Tryz.prog 16 #[.agg #[.slice A1 d.words.length c1,.int .i64 d.rows,.int .i64 d.cols,.slice A2 d.costs.length c2,.slice A3 d.classes.length c3,.slice A4 d.chars.length c4,.slice A5 d.unknown.length c5,.slice A6 d.meta0.length c6,.slice A7 d.unkMeta.length c7,.bool d.hasUser,.slice Z d.user.length Y]] W λe w'=>e=.returned (.bool (Zl d))/\Zf W w'):=CT;clear CS CT;have HW:=Hd h1.2.2;have CU:Hid (∀ W,Zf w W->Calls Tryz.prog 28 #[.slice Z d.user.length Y] W λe w'=>e=.returned (.bool (ruB d.user))/\Zf W w'):=λW f=>ak W Z Y (Ya h8.2.2 f)
 have HI:=Hd hx;have av:=hx.1;have B0:=alloc_at w (.cells #[.slice A1 d.words.length c1,.int .i64 d.rows,.int .i64 d.cols,.slice A2 d.costs.length c2,.slice A3 d.classes.length c3,.slice A4 d.chars.length c4,.slice A5 d.unknown.length c5,.slice A6 d.meta0.length c6,.slice A7 d.unkMeta.length c7,.bool d.hasUser,.slice Z d.user.length Y] 30);have X0:=(Fe w).alloc (.cells #[.slice A1 d.words.length c1,.int .i64 d.rows,.int .i64 d.cols,.slice A2 d.costs.length c2,.slice A3 d.classes.length c3,.slice A4 d.chars.length c4,.slice A5 d.unknown.length c5,.slice A6 d.meta0.length c6,.slice A7 d.unkMeta.length c7,.bool d.hasUser,.slice Z d.user.length Y] 30);have HX:=Hd (Ai1 X0 B0);clear h h1 h2 h3 h4 h5 h6 h7 h8 X0 B0 L hx ak hT aj;go_enter Tryz.func9,Tryz.ntmps9
 go_wp2_with fail
 generalize w.alloc _=w0 at *
 go_loopg [11] xs.length (λg1 al wr=>∃ (i:Nat),al=.int .i64 (i:Int)/\i<=xs.length/\xs.length<=i+g1/\Hid (Zf w0 wr/\(xs.take i).all rdB=true))
 case atStart=>exact⟨0,rfl,Om,Om,Fl _,rfl⟩
 case round =>
  obtain⟨i,rfl,hi,hg,U⟩:=hrel;by_cases M:i<xs.length
  ·have ao:(i:Int)<(xs.length:Int):=Om;have am:(0:Int)<=(i:Int):=Om;obtain⟨b,o,rfl,_,ar,e0,ai⟩:=Uk HI.out i M;have q0:=(HX.out.1.trans U.out.1 (λ_ _ e=>e)).cell e0 id;have HN:Hid (rdB xs[i]=true->(xs.take (i+1)).all rdB=true):=λe=>Wg rdB _ _ M U.out.2 e
   have HB:Hid (rdB xs[i]=false->Uf d xs=false):=λe=>by unfold Uf;rw[Vc rdB _ _ M e];rfl
   have C:=Hd (CR.out xs[i] wr ai);clear e0;generalize xs[i]=s at *;generalize rdB s=q at *;cases q
   ·go_wp2_with (first|(go_at_call 40;refine C.out.mono ?_;rintro e w3 ⟨rfl,I⟩;have HY:=Hd I;clear I)|fail)
    first|go_ret|go_ret2
    exact⟨Zh (HB.out (by first|rfl|trivial)).symm,(HX.out.1.trans U.out.1 (λ_ _ e=>e)).trans HY.out (λ_ _ e=>e)⟩
   ·go_wp2_with (first|(go_at_call 40;refine C.out.mono ?_;rintro e w3 ⟨rfl,I⟩;have HY:=Hd I;clear I)|fail)
    go_roundg (xs.length-(i+1))
    case measure=>omega
    case rel=>exact⟨i+1,by go_num,Om,Om,U.out.1.trans HY.out (λ_ _ e=>e),HN.out (by first|rfl|trivial)⟩
  ·have ae:Hid (Zf w0 wr/\xs.all rdB=true):=⟨U.out.1,by have:=U.out.2;rw[List.take_of_length_le Om]at this;exact this⟩;clear U hi hg;have k0:=cellAt (ae.out.1.heap HX.out.2 id) 0 (.slice A1 d.words.length c1) rfl;go_wp2_with fail
   go_loopg [22] d.words.length (λg1 v22 wr=>∃ (i:Nat),v22=.int .i64 (i:Int)/\i<=d.words.length/\d.words.length<=i+g1/\Hid (Zf w0 wr/\(d.words.take i).all Wv=true))
   case atStart=>exact⟨0,rfl,Om,Om,ae.out.1,rfl⟩
   case round =>
    obtain⟨i,rfl,hi,hg,U⟩:=hrel;by_cases M:i<d.words.length
    ·have ao:(i:Int)<(d.words.length:Int):=Om;have am:(0:Int)<=(i:Int):=Om;obtain⟨b,o,p,q,rfl,_,ar,⟨Ap,cp,ep,_,_,_⟩,⟨Aq,cq,eq,_,_,_⟩,ai,e0,e1,e2,e3,e4,e5⟩:=Ji HW.out i M;cases ep;cases eq;have XX:=HX.out.1.trans U.out.1 (λ_ _ e=>e);have q0:=XX.cell e0 id;have q1:=XX.cell e1 id;have q2:=XX.cell e2 id;have q3:=XX.cell e3 id;have q4:=XX.cell e4 id;have q5:=XX.cell e5 id;have HN:Hid (Wv d.words[i]=true->(d.words.take (i+1)).all Wv=true):=λe=>Wg Wv _ _ M U.out.2 e
     have HB:Hid (Wv d.words[i]=false->Uf d xs=false):=λe=>by unfold Uf;rw[Vc Wv _ _ M e];simp
     have HM:=Hd (Qm (HF.out _ (List.getElem_mem M)));clear XX e0 e1 e2 e3 e4 e5;generalize d.words[i]=x at *;by_cases a1:x.surface.size≠0
     ·have aq:(x.surface.toList==[])=false:=by
       rw[ByteArray.toList_eq,beq_eq_false_iff_ne];intro e;have:=congrArg List.length e;rw[Array.length_toList]at this;exact a1 this
      have C:Hid (∀ o:Obj,Calls Tryz.prog 41 #[.slice (some ⟨wr.heap.size+1,0,none⟩) 1 1] ((wr.alloc o).alloc (.cells #[.string x.surface] 9)) λe w'=>e=.returned (.bool (Wk x.surface))/\(wr.alloc o).alloc (.cells #[.string x.surface] 9)=w'):=λo=>by
       have t0:=Zhk (wr.alloc o) x.surface HM.out.2.2;rw[Za]at t0;exact t0
      have hk:Wv x=Wk x.surface:=by unfold Wv;rw[decide_eq_true a1];rfl
      generalize Wk x.surface=fb at *;cases fb
      ·go_wp2_with (first|(go_at_call 41;refine (C.out _).mono ?_;rintro e w' ⟨rfl,rfl⟩)|fail)
       first|go_ret|go_ret2
       exact⟨Zh (HB.out hk).symm,HX.out.1.trans ((U.out.1.alloc (.cells #[.string x.surface,.int .i64 x.left,.int .i64 x.right,.int .i64 x.weight,.slice Ap x.pos.length cp,.slice Aq x.contents.length cq] 53)).alloc (.cells #[.string x.surface] 9)) (λ_ _ e=>e)⟩
      ·go_wp2_with (first|(go_at_call 41;refine (C.out _).mono ?_;rintro e w' ⟨rfl,rfl⟩)|fail)
       go_roundg (d.words.length-(i+1))
       case measure=>omega
       case rel=>exact⟨i+1,by go_num,Om,Om,(U.out.1.alloc (.cells #[.string x.surface,.int .i64 x.left,.int .i64 x.right,.int .i64 x.weight,.slice Ap x.pos.length cp,.slice Aq x.contents.length cq] 53)).alloc (.cells #[.string x.surface] 9),HN.out hk⟩
     ·have aq:(x.surface.toList==[])=true:=by
       rw[ByteArray.toList_eq];have:x.surface.data.toList=[]:=List.eq_nil_of_length_eq_zero (by rw[Array.length_toList];exact Decidable.not_not.1 a1);rw[this];rfl
      go_wp2_with fail
      first|go_ret|go_ret2
      exact⟨Zh (HB.out (Zci a1)).symm,HX.out.1.trans (U.out.1.alloc (.cells #[.string x.surface,.int .i64 x.left,.int .i64 x.right,.int .i64 x.weight,.slice Ap x.pos.length cp,.slice Aq x.contents.length cq] 53)) (λ_ _ e=>e)⟩
    ·have ad:Hid (Zf w0 wr/\Uf d xs=((!d.hasUser||ruB d.user)&&(Xx d&&Zl d))):=⟨U.out.1,by
      have:=U.out.2;rw[List.take_of_length_le Om]at this;unfold Uf
      rw[ae.out.2,this];rfl⟩
     have HE:Hid (Zf w wr):=HX.out.1.trans ad.out.1 (λ_ _ e=>e);clear U ae hi hg;have K:=ad.out.1.heap HX.out.2 id;have V:=Hd K;have X:=Hd ad.out.2;clear ad ap HW HI HF CR;have k0:=cellAt K 0 (.slice A1 d.words.length c1) rfl;have k1:=cellAt K 1 (.int .i64 d.rows) rfl;have k2:=cellAt K 2 (.int .i64 d.cols) rfl;have k3:=cellAt K 3 (.slice A2 d.costs.length c2) rfl;have k4:=cellAt K 4 (.slice A3 d.classes.length c3) rfl;have k5:=cellAt K 5 (.slice A4 d.chars.length c4) rfl;have k6:=cellAt K 6 (.slice A5 d.unknown.length c5) rfl;have k7:=cellAt K 7 (.slice A6 d.meta0.length c6) rfl;have k8:=cellAt K 8 (.slice A7 d.unkMeta.length c7) rfl;have k9:=cellAt K 9 (.bool d.hasUser) rfl;have au:=cellAt K 10 (.slice Z d.user.length Y) rfl;clear K;generalize Xx d=q1 at *;generalize Zl d=q2 at *;generalize ruB d.user=q3 at *;cases hu:d.hasUser
     ·rw[hu]at aa af HX V k9 X;cases q1
      ·go_wp2_with (first|(go_at_call 15;with_reducible refine (aa.out wr HE.out).mono ?_;rintro e w4 ⟨rfl,J⟩;have HZ:=Hd ((HE.out).trans J (λ_ _ e=>e));have z:=J.heap V.out id;clear J;have m0:=cellAt z 0 (.slice A1 d.words.length c1) rfl;have m1:=cellAt z 1 (.int .i64 d.rows) rfl;have m2:=cellAt z 2 (.int .i64 d.cols) rfl;have m3:=cellAt z 3 (.slice A2 d.costs.length c2) rfl;have m4:=cellAt z 4 (.slice A3 d.classes.length c3) rfl;have m5:=cellAt z 5 (.slice A4 d.chars.length c4) rfl;have m6:=cellAt z 6 (.slice A5 d.unknown.length c5) rfl;have m7:=cellAt z 7 (.slice A6 d.meta0.length c6) rfl;have m8:=cellAt z 8 (.slice A7 d.unkMeta.length c7) rfl;have m9:=cellAt z 9 _ rfl;have ag:=cellAt z 10 (.slice Z d.user.length Y) rfl;clear z)|fail)
       first|go_ret|go_ret2
       exact⟨Zh (by rw[X.out];rfl),HZ.out⟩
      ·go_wp2_with (first|(go_at_call 15;with_reducible refine (aa.out wr HE.out).mono ?_;rintro e w4 ⟨rfl,J⟩;have HZ:=Hd ((HE.out).trans J (λ_ _ e=>e));have z:=J.heap V.out id;clear J;have m0:=cellAt z 0 (.slice A1 d.words.length c1) rfl;have m1:=cellAt z 1 (.int .i64 d.rows) rfl;have m2:=cellAt z 2 (.int .i64 d.cols) rfl;have m3:=cellAt z 3 (.slice A2 d.costs.length c2) rfl;have m4:=cellAt z 4 (.slice A3 d.classes.length c3) rfl;have m5:=cellAt z 5 (.slice A4 d.chars.length c4) rfl;have m6:=cellAt z 6 (.slice A5 d.unknown.length c5) rfl;have m7:=cellAt z 7 (.slice A6 d.meta0.length c6) rfl;have m8:=cellAt z 8 (.slice A7 d.unkMeta.length c7) rfl;have m9:=cellAt z 9 _ rfl;have ag:=cellAt z 10 (.slice Z d.user.length Y) rfl;clear z)|(go_at_call 16;with_reducible refine (af.out w4 HZ.out).mono ?_;rintro e w5 ⟨rfl,ab⟩;have HQ:=Hd (HZ.out.trans ab (λ_ _ e=>e));clear ab)|fail)
       first|go_ret|go_ret2
       exact⟨Zh (by rw[X.out];rfl),HQ.out⟩
     ·rw[hu]at aa af HX V k9 X;cases q3
      ·go_wp2_with (first|(go_at_call 28;with_reducible refine (CU.out wr HE.out).mono ?_;rintro e w3 ⟨rfl,I⟩;have HY:=Hd (Ai1 I (HE.out.trans I (λ_ _ e=>e)));have G:=I.heap V.out id;clear I;have n0:=cellAt G 0 (.slice A1 d.words.length c1) rfl;have n1:=cellAt G 1 (.int .i64 d.rows) rfl;have n2:=cellAt G 2 (.int .i64 d.cols) rfl;have n3:=cellAt G 3 (.slice A2 d.costs.length c2) rfl;have n4:=cellAt G 4 (.slice A3 d.classes.length c3) rfl;have n5:=cellAt G 5 (.slice A4 d.chars.length c4) rfl;have n6:=cellAt G 6 (.slice A5 d.unknown.length c5) rfl;have n7:=cellAt G 7 (.slice A6 d.meta0.length c6) rfl;have n8:=cellAt G 8 (.slice A7 d.unkMeta.length c7) rfl;have n9:=cellAt G 9 _ rfl;have ah:=cellAt G 10 (.slice Z d.user.length Y) rfl;have ac:=Hd G;clear G)|fail)
       first|go_ret|go_ret2
       exact⟨Zh (by rw[X.out];rfl),HY.out.2⟩
      ·cases q1
       ·go_wp2_with (first|(go_at_call 28;with_reducible refine (CU.out wr HE.out).mono ?_;rintro e w3 ⟨rfl,I⟩;have HY:=Hd (Ai1 I (HE.out.trans I (λ_ _ e=>e)));have G:=I.heap V.out id;clear I;have n0:=cellAt G 0 (.slice A1 d.words.length c1) rfl;have n1:=cellAt G 1 (.int .i64 d.rows) rfl;have n2:=cellAt G 2 (.int .i64 d.cols) rfl;have n3:=cellAt G 3 (.slice A2 d.costs.length c2) rfl;have n4:=cellAt G 4 (.slice A3 d.classes.length c3) rfl;have n5:=cellAt G 5 (.slice A4 d.chars.length c4) rfl;have n6:=cellAt G 6 (.slice A5 d.unknown.length c5) rfl;have n7:=cellAt G 7 (.slice A6 d.meta0.length c6) rfl;have n8:=cellAt G 8 (.slice A7 d.unkMeta.length c7) rfl;have n9:=cellAt G 9 _ rfl;have ah:=cellAt G 10 (.slice Z d.user.length Y) rfl;have ac:=Hd G;clear G)|(go_at_call 15;with_reducible refine (aa.out w3 HY.out.2).mono ?_;rintro e w4 ⟨rfl,J⟩;have HZ:=Hd ((HY.out.2).trans J (λ_ _ e=>e));have z:=J.heap ac.out id;clear J;have m0:=cellAt z 0 (.slice A1 d.words.length c1) rfl;have m1:=cellAt z 1 (.int .i64 d.rows) rfl;have m2:=cellAt z 2 (.int .i64 d.cols) rfl;have m3:=cellAt z 3 (.slice A2 d.costs.length c2) rfl;have m4:=cellAt z 4 (.slice A3 d.classes.length c3) rfl;have m5:=cellAt z 5 (.slice A4 d.chars.length c4) rfl;have m6:=cellAt z 6 (.slice A5 d.unknown.length c5) rfl;have m7:=cellAt z 7 (.slice A6 d.meta0.length c6) rfl;have m8:=cellAt z 8 (.slice A7 d.unkMeta.length c7) rfl;have m9:=cellAt z 9 _ rfl;have ag:=cellAt z 10 (.slice Z d.user.length Y) rfl;clear z)|fail)
        first|go_ret|go_ret2
        exact⟨Zh (by rw[X.out];rfl),HZ.out⟩
       ·go_wp2_with (first|(go_at_call 28;with_reducible refine (CU.out wr HE.out).mono ?_;rintro e w3 ⟨rfl,I⟩;have HY:=Hd (Ai1 I (HE.out.trans I (λ_ _ e=>e)));have G:=I.heap V.out id;clear I;have n0:=cellAt G 0 (.slice A1 d.words.length c1) rfl;have n1:=cellAt G 1 (.int .i64 d.rows) rfl;have n2:=cellAt G 2 (.int .i64 d.cols) rfl;have n3:=cellAt G 3 (.slice A2 d.costs.length c2) rfl;have n4:=cellAt G 4 (.slice A3 d.classes.length c3) rfl;have n5:=cellAt G 5 (.slice A4 d.chars.length c4) rfl;have n6:=cellAt G 6 (.slice A5 d.unknown.length c5) rfl;have n7:=cellAt G 7 (.slice A6 d.meta0.length c6) rfl;have n8:=cellAt G 8 (.slice A7 d.unkMeta.length c7) rfl;have n9:=cellAt G 9 _ rfl;have ah:=cellAt G 10 (.slice Z d.user.length Y) rfl;have ac:=Hd G;clear G)|(go_at_call 15;with_reducible refine (aa.out w3 HY.out.2).mono ?_;rintro e w4 ⟨rfl,J⟩;have HZ:=Hd ((HY.out.2).trans J (λ_ _ e=>e));have z:=J.heap ac.out id;clear J;have m0:=cellAt z 0 (.slice A1 d.words.length c1) rfl;have m1:=cellAt z 1 (.int .i64 d.rows) rfl;have m2:=cellAt z 2 (.int .i64 d.cols) rfl;have m3:=cellAt z 3 (.slice A2 d.costs.length c2) rfl;have m4:=cellAt z 4 (.slice A3 d.classes.length c3) rfl;have m5:=cellAt z 5 (.slice A4 d.chars.length c4) rfl;have m6:=cellAt z 6 (.slice A5 d.unknown.length c5) rfl;have m7:=cellAt z 7 (.slice A6 d.meta0.length c6) rfl;have m8:=cellAt z 8 (.slice A7 d.unkMeta.length c7) rfl;have m9:=cellAt z 9 _ rfl;have ag:=cellAt z 10 (.slice Z d.user.length Y) rfl;clear z)|(go_at_call 16;with_reducible refine (af.out w4 HZ.out).mono ?_;rintro e w5 ⟨rfl,ab⟩;have HQ:=Hd (HZ.out.trans ab (λ_ _ e=>e));clear ab)|fail)
        first|go_ret|go_ret2
        exact⟨Zh (by rw[X.out];rfl),HQ.out⟩
end Go.Proofs.YtlfoalomaofejaaGreatDoor
