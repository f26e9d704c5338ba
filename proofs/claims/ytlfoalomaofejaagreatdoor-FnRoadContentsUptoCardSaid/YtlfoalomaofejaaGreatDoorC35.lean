/- laws.fine (over what laws.righ -/
import Derived.Test.YtlfoalomaofejaaGreatDoorC34
set_option linter.all false
set_option maxRecDepth 100000
set_option maxHeartbeats 4000000
namespace Go.Proofs.YtlfoalomaofejaaGreatDoor
open Go.RowKit DT SS TR LT UC
def Qr(r:Nat):Bool:=decide (r<=32)||(r==133||(r==160||(r==12288||((decide (8192<=r)&&decide (r<=8203))||(r==8232||(r==8233||(r==8239||(r==8287||(r==5760||r==65533)))))))))
def No(u:GRec):Bool:=(Zd u.text).all (λc=>!Qr (Xa c))&&(decide (1<=u.tokens.length)&&decide (u.tokens.length=u.yomi.length))
def Nu(xs:List ByteArray)(i:Nat):Bool:=match xs[i]? with
 | none=>true
 | some s=>(decide (s.size≠0)&&Wf s)&&(i==0||match xs[i-1]? with|none=>true|some p=>!Op.bytesLess s.toList p.toList && !(s.toList==p.toList))
def He(xs:List ByteArray):Bool:=(List.range xs.length).all (Nu xs)&&decide (0<xs.length)
def ruB(us:List GRec):Bool:=us.all No&&He (us.map λu=>u.text)
def Wp(x:GWord):Bool:=decide (x.surface.size≠0)&&Wf x.surface
def Sq(d:Zg)(xs:List ByteArray):Bool:=xs.all rdB&&(d.words.all Wp&&((!d.hasUser||ruB d.user)&&(We d&&Zm d)))
theorem Zbt{x:GWord}(h:¬ x.surface.size≠0):Wp x=false:=by
 unfold Wp;rw[decide_eq_false h];rfl
theorem Zgi(W:World)(s:ByteArray)(hs:s.size<=2147483647):Calls Tryz.prog 41 #[.slice (some ⟨W.heap.size,0,none⟩) 1 1] (W.alloc (.cells #[.string s] 9)) λe w'=>e=.returned (.bool (Wf s))/\W.alloc (.cells #[.string s] 9)=w':=by
 have B:=alloc_at W (.cells #[.string s] 9);have hz:=Za W (.cells #[.string s] 9)
 have:=Fa (W.alloc (.cells #[.string s] 9)) (λ_=>True) (some ⟨W.heap.size,0,none⟩) 1 [s] (by
  refine⟨by simp,Or.inr ⟨W.heap.size,0,rfl,trivial,by rw[hz];omega,?_⟩⟩;intro k hk;have hk0:k=0:=by simpa using hk
  subst hk0;refine⟨[.string s],⟨rfl,Nt hs (by decide)⟩,?_⟩;intro j hj;have hj0:j=0:=by simpa using hj
  subst hj0
  exact cellAt B 0 _ rfl)
 have e:O9 [s]=Wf s:=by unfold O9;simp
 rw[e]at this;exact this
theorem Zi1(w:World)(O Oi:Nat->Prop)(d:Zg)(cs:List Value)(A:Option Addr)(c:Nat)(xs:List ByteArray)(h:tDict.R w O d cs)(hf:Yl d=true)(hT:U8 w)(hx:Ty.str.At w Oi A xs)
  (hRU:∀ (W:World) (B:Option Addr) (k:Nat),tRec.At W O B d.user->Calls Tryz.prog 28 #[.slice B d.user.length k] W λe w'=>e=.returned (.bool (ruB d.user))/\Zf W w') :
  Calls Tryz.prog 9 #[.agg cs.toArray,.slice A xs.length c] w λe w'=>e=.returned (.bool (Sq d xs))/\Zf w w':=by
 have hmt:d.meta0.length<=2147483647/\d.unkMeta.length<=2147483647:=by
  have hf:=hf;unfold Yl at hf;simp only[Bool.and_eq_true]at hf;exact⟨by simpa [Yi] using hf.2.2.2.2.2.1.1,by simpa [Yi] using hf.2.2.2.2.2.2.1.1⟩
 have hlw:d.words.length<=2147483647:=by
  have hf:=hf;unfold Yl at hf;simp only[Bool.and_eq_true]at hf;simpa [Yi] using hf.1.1
 have HF:Hid (∀ x∈d.words,Xb x=true):=by
  have hf:=hf;unfold Yl at hf;simp only[Bool.and_eq_true]at hf;exact λx hx=>List.all_eq_true.1 hf.1.2 x hx
 have CS:Hid (∀ W,Zf w W->Calls Tryz.prog 15 #[.agg cs.toArray] W λe w'=>e=.returned (.bool (We d))/\Zf W w'):=λW f=>I7 W O d cs (tDict.ext h f) hf
 have CT:Hid (∀ W,Zf w W->Calls Tryz.prog 16 #[.agg cs.toArray] W λe w'=>e=.returned (.bool (Zm d))/\Zf W w'):=λW f=>M3 d cs O W (tDict.ext h f) (hT.ext f) hmt
 have CR:Hid (∀ (s:ByteArray) (W:World),s.size<=9223372036854775807->Calls Tryz.prog 40 #[.string s] W λe w'=>e=.returned (.bool (rdB s))/\Zf W w'):=λs W hs=>Ev s W hs
 obtain⟨A1,c1,A2,c2,A3,c3,A4,c4,A5,c5,A6,c6,A7,c7,A8,c8,rfl,h1,h2,h3,h4,h5,h6,h7,h8,_⟩:=Yy h;have CS2:Hid (∀ W,Zf w W->Calls Tryz.prog 15 #[.agg #[.slice A1 d.words.length c1,.int .i64 d.rows,.int .i64 d.cols,.slice A2 d.costs.length c2,.slice A3 d.classes.length c3,.slice A4 d.chars.length c4,.slice A5 d.unknown.length c5,.slice A6 d.meta0.length c6,.slice A7 d.unkMeta.length c7,.bool d.hasUser,.slice A8 d.user.length c8]] W λe w'=>e=.returned (.bool (We d))/\Zf W w'):=CS;have CT2:Hid (∀ W,Zf w W->Calls Tryz.prog 16 #[.agg #[.slice A1 d.words.length c1,.int .i64 d.rows,.int .i64 d.cols,.slice A2 d.costs.length c2,.slice A3 d.classes.length c3,.slice A4 d.chars.length c4,.slice A5 d.unknown.length c5,.slice A6 d.meta0.length c6,.slice A7 d.unkMeta.length c7,.bool d.hasUser,.slice A8 d.user.length c8]] W λe w'=>e=.returned (.bool (Zm d))/\Zf W w'):=CT;clear CS CT;have HW:=Hd h1.2.2;have CU:Hid (∀ W,Zf w W->Calls Tryz.prog 28 #[.slice A8 d.user.length c8] W λe w'=>e=.returned (.bool (ruB d.user))/\Zf W w'):=λW f=>hRU W A8 c8 (Z3 h8.2.2 f)
 have HI:=Hd hx;have hxm:=hx.1;have B0:=alloc_at w (.cells #[.slice A1 d.words.length c1,.int .i64 d.rows,.int .i64 d.cols,.slice A2 d.costs.length c2,.slice A3 d.classes.length c3,.slice A4 d.chars.length c4,.slice A5 d.unknown.length c5,.slice A6 d.meta0.length c6,.slice A7 d.unkMeta.length c7,.bool d.hasUser,.slice A8 d.user.length c8] 30);have X0:=(Fe w).alloc (.cells #[.slice A1 d.words.length c1,.int .i64 d.rows,.int .i64 d.cols,.slice A2 d.costs.length c2,.slice A3 d.classes.length c3,.slice A4 d.chars.length c4,.slice A5 d.unknown.length c5,.slice A6 d.meta0.length c6,.slice A7 d.unkMeta.length c7,.bool d.hasUser,.slice A8 d.user.length c8] 30);have HX:=Hd (Ai1 X0 B0);clear h h1 h2 h3 h4 h5 h6 h7 h8 X0 B0 hf hx hRU hT hmt;go_enter Tryz.func9,Tryz.ntmps9
 go_wp2_with fail
 generalize w.alloc _=w0 at *
 go_loopg [11] xs.length (λg1 v11 wr=>∃ (i:Nat),v11=.int .i64 (i:Int)/\i<=xs.length/\xs.length<=i+g1/\Hid (Zf w0 wr/\(xs.take i).all rdB=true))
 case atStart=>exact⟨0,rfl,Om,Om,Fl _,rfl⟩
 case round =>
  obtain⟨i,rfl,hi,hg,HR⟩:=hrel;by_cases hlt:i<xs.length
  ·have hlz:(i:Int)<(xs.length:Int):=Om;have hz0:(0:Int)<=(i:Int):=Om;obtain⟨b,o,rfl,_,hbl,e0,hsz⟩:=Vw HI.out i hlt;have q0:=(HX.out.1.trans HR.out.1 (λ_ _ e=>e)).cell e0 id;have HN:Hid (rdB xs[i]=true->(xs.take (i+1)).all rdB=true):=λe=>Ys rdB _ _ hlt HR.out.2 e
   have HB:Hid (rdB xs[i]=false->Sq d xs=false):=λe=>by unfold Sq;rw[Y5 rdB _ _ hlt e];rfl
   have C:=Hd (CR.out xs[i] wr hsz);clear e0;generalize xs[i]=s at *;generalize rdB s=q at *;cases q
   ·go_wp2_with (first|(go_at_call 40;refine C.out.mono ?_;rintro e w3 ⟨rfl,hx3⟩;have HY:=Hd hx3;clear hx3)|fail)
    first|go_ret|go_ret2
    exact⟨Zh (HB.out (by first|rfl|trivial)).symm,(HX.out.1.trans HR.out.1 (λ_ _ e=>e)).trans HY.out (λ_ _ e=>e)⟩
   ·go_wp2_with (first|(go_at_call 40;refine C.out.mono ?_;rintro e w3 ⟨rfl,hx3⟩;have HY:=Hd hx3;clear hx3)|fail)
    go_roundg (xs.length-(i+1))
    case measure=>omega
    case rel=>exact⟨i+1,by go_num,Om,Om,HR.out.1.trans HY.out (λ_ _ e=>e),HN.out (by first|rfl|trivial)⟩
  ·have HR2:Hid (Zf w0 wr/\xs.all rdB=true):=⟨HR.out.1,by have:=HR.out.2;rw[List.take_of_length_le Om]at this;exact this⟩;clear HR hi hg;have k0:=cellAt (HR2.out.1.heap HX.out.2 id) 0 (.slice A1 d.words.length c1) rfl;go_wp2_with fail
   go_loopg [22] d.words.length (λg1 v22 wr=>∃ (i:Nat),v22=.int .i64 (i:Int)/\i<=d.words.length/\d.words.length<=i+g1/\Hid (Zf w0 wr/\(d.words.take i).all Wp=true))
   case atStart=>exact⟨0,rfl,Om,Om,HR2.out.1,rfl⟩
   case round =>
    obtain⟨i,rfl,hi,hg,HR⟩:=hrel;by_cases hlt:i<d.words.length
    ·have hlz:(i:Int)<(d.words.length:Int):=Om;have hz0:(0:Int)<=(i:Int):=Om;obtain⟨b,o,p,q,rfl,_,hbl,⟨Ap,cp,ep,_,_,_⟩,⟨Aq,cq,eq,_,_,_⟩,hsz,e0,e1,e2,e3,e4,e5⟩:=Nf HW.out i hlt;cases ep;cases eq;have XX:=HX.out.1.trans HR.out.1 (λ_ _ e=>e);have q0:=XX.cell e0 id;have q1:=XX.cell e1 id;have q2:=XX.cell e2 id;have q3:=XX.cell e3 id;have q4:=XX.cell e4 id;have q5:=XX.cell e5 id;have HN:Hid (Wp d.words[i]=true->(d.words.take (i+1)).all Wp=true):=λe=>Ys Wp _ _ hlt HR.out.2 e
     have HB:Hid (Wp d.words[i]=false->Sq d xs=false):=λe=>by unfold Sq;rw[Y5 Wp _ _ hlt e];simp
     have HM:=Hd (Qj (HF.out _ (List.getElem_mem hlt)));clear XX e0 e1 e2 e3 e4 e5;generalize d.words[i]=x at *;by_cases a1:x.surface.size≠0
     ·have hez:(x.surface.toList==[])=false:=by
       rw[ByteArray.toList_eq,beq_eq_false_iff_ne];intro e;have:=congrArg List.length e;rw[Array.length_toList]at this;exact a1 this
      have C:Hid (∀ o:Obj,Calls Tryz.prog 41 #[.slice (some ⟨wr.heap.size+1,0,none⟩) 1 1] ((wr.alloc o).alloc (.cells #[.string x.surface] 9)) λe w'=>e=.returned (.bool (Wf x.surface))/\(wr.alloc o).alloc (.cells #[.string x.surface] 9)=w'):=λo=>by
       have t0:=Zgi (wr.alloc o) x.surface HM.out.2.2;rw[Za]at t0;exact t0
      have hk:Wp x=Wf x.surface:=by unfold Wp;rw[decide_eq_true a1];rfl
      generalize Wf x.surface=fb at *;cases fb
      ·go_wp2_with (first|(go_at_call 41;refine (C.out _).mono ?_;rintro e w' ⟨rfl,rfl⟩)|fail)
       first|go_ret|go_ret2
       exact⟨Zh (HB.out hk).symm,HX.out.1.trans ((HR.out.1.alloc (.cells #[.string x.surface,.int .i64 x.left,.int .i64 x.right,.int .i64 x.weight,.slice Ap x.pos.length cp,.slice Aq x.contents.length cq] 53)).alloc (.cells #[.string x.surface] 9)) (λ_ _ e=>e)⟩
      ·go_wp2_with (first|(go_at_call 41;refine (C.out _).mono ?_;rintro e w' ⟨rfl,rfl⟩)|fail)
       go_roundg (d.words.length-(i+1))
       case measure=>omega
       case rel=>exact⟨i+1,by go_num,Om,Om,(HR.out.1.alloc (.cells #[.string x.surface,.int .i64 x.left,.int .i64 x.right,.int .i64 x.weight,.slice Ap x.pos.length cp,.slice Aq x.contents.length cq] 53)).alloc (.cells #[.string x.surface] 9),HN.out hk⟩
     ·have hez:(x.surface.toList==[])=true:=by
       rw[ByteArray.toList_eq];have:x.surface.data.toList=[]:=List.eq_nil_of_length_eq_zero (by rw[Array.length_toList];exact Decidable.not_not.1 a1);rw[this];rfl
      go_wp2_with fail
      first|go_ret|go_ret2
      exact⟨Zh (HB.out (Zbt a1)).symm,HX.out.1.trans (HR.out.1.alloc (.cells #[.string x.surface,.int .i64 x.left,.int .i64 x.right,.int .i64 x.weight,.slice Ap x.pos.length cp,.slice Aq x.contents.length cq] 53)) (λ_ _ e=>e)⟩
    ·have HR3:Hid (Zf w0 wr/\Sq d xs=((!d.hasUser||ruB d.user)&&(We d&&Zm d))):=⟨HR.out.1,by
      have:=HR.out.2;rw[List.take_of_length_le Om]at this;unfold Sq
      rw[HR2.out.2,this];rfl⟩
     have HE:Hid (Zf w wr):=HX.out.1.trans HR3.out.1 (λ_ _ e=>e);clear HR HR2 hi hg;have hbx:=HR3.out.1.heap HX.out.2 id;have HX2:=Hd hbx;have HR4:=Hd HR3.out.2;clear HR3 hlw HW HI HF CR;have k0:=cellAt hbx 0 (.slice A1 d.words.length c1) rfl;have k1:=cellAt hbx 1 (.int .i64 d.rows) rfl;have k2:=cellAt hbx 2 (.int .i64 d.cols) rfl;have k3:=cellAt hbx 3 (.slice A2 d.costs.length c2) rfl;have k4:=cellAt hbx 4 (.slice A3 d.classes.length c3) rfl;have k5:=cellAt hbx 5 (.slice A4 d.chars.length c4) rfl;have k6:=cellAt hbx 6 (.slice A5 d.unknown.length c5) rfl;have k7:=cellAt hbx 7 (.slice A6 d.meta0.length c6) rfl;have k8:=cellAt hbx 8 (.slice A7 d.unkMeta.length c7) rfl;have k9:=cellAt hbx 9 (.bool d.hasUser) rfl;have k10:=cellAt hbx 10 (.slice A8 d.user.length c8) rfl;clear hbx;generalize We d=q1 at *;generalize Zm d=q2 at *;generalize ruB d.user=q3 at *;cases hu:d.hasUser
     ·rw[hu]at CS2 CT2 HX HX2 k9 HR4;cases q1
      ·go_wp2_with (first|(go_at_call 15;with_reducible refine (CS2.out wr HE.out).mono ?_;rintro e w4 ⟨rfl,hx4⟩;have HZ:=Hd ((HE.out).trans hx4 (λ_ _ e=>e));have hb4:=hx4.heap HX2.out id;clear hx4;have m0:=cellAt hb4 0 (.slice A1 d.words.length c1) rfl;have m1:=cellAt hb4 1 (.int .i64 d.rows) rfl;have m2:=cellAt hb4 2 (.int .i64 d.cols) rfl;have m3:=cellAt hb4 3 (.slice A2 d.costs.length c2) rfl;have m4:=cellAt hb4 4 (.slice A3 d.classes.length c3) rfl;have m5:=cellAt hb4 5 (.slice A4 d.chars.length c4) rfl;have m6:=cellAt hb4 6 (.slice A5 d.unknown.length c5) rfl;have m7:=cellAt hb4 7 (.slice A6 d.meta0.length c6) rfl;have m8:=cellAt hb4 8 (.slice A7 d.unkMeta.length c7) rfl;have m9:=cellAt hb4 9 _ rfl;have m10:=cellAt hb4 10 (.slice A8 d.user.length c8) rfl;clear hb4)|fail)
       first|go_ret|go_ret2
       exact⟨Zh (by rw[HR4.out];rfl),HZ.out⟩
      ·go_wp2_with (first|(go_at_call 15;with_reducible refine (CS2.out wr HE.out).mono ?_;rintro e w4 ⟨rfl,hx4⟩;have HZ:=Hd ((HE.out).trans hx4 (λ_ _ e=>e));have hb4:=hx4.heap HX2.out id;clear hx4;have m0:=cellAt hb4 0 (.slice A1 d.words.length c1) rfl;have m1:=cellAt hb4 1 (.int .i64 d.rows) rfl;have m2:=cellAt hb4 2 (.int .i64 d.cols) rfl;have m3:=cellAt hb4 3 (.slice A2 d.costs.length c2) rfl;have m4:=cellAt hb4 4 (.slice A3 d.classes.length c3) rfl;have m5:=cellAt hb4 5 (.slice A4 d.chars.length c4) rfl;have m6:=cellAt hb4 6 (.slice A5 d.unknown.length c5) rfl;have m7:=cellAt hb4 7 (.slice A6 d.meta0.length c6) rfl;have m8:=cellAt hb4 8 (.slice A7 d.unkMeta.length c7) rfl;have m9:=cellAt hb4 9 _ rfl;have m10:=cellAt hb4 10 (.slice A8 d.user.length c8) rfl;clear hb4)|(go_at_call 16;with_reducible refine (CT2.out w4 HZ.out).mono ?_;rintro e w5 ⟨rfl,hx5⟩;have HQ:=Hd (HZ.out.trans hx5 (λ_ _ e=>e));clear hx5)|fail)
       first|go_ret|go_ret2
       exact⟨Zh (by rw[HR4.out];rfl),HQ.out⟩
     ·rw[hu]at CS2 CT2 HX HX2 k9 HR4;cases q3
      ·go_wp2_with (first|(go_at_call 28;with_reducible refine (CU.out wr HE.out).mono ?_;rintro e w3 ⟨rfl,hx3⟩;have HY:=Hd (Ai1 hx3 (HE.out.trans hx3 (λ_ _ e=>e)));have hb3:=hx3.heap HX2.out id;clear hx3;have n0:=cellAt hb3 0 (.slice A1 d.words.length c1) rfl;have n1:=cellAt hb3 1 (.int .i64 d.rows) rfl;have n2:=cellAt hb3 2 (.int .i64 d.cols) rfl;have n3:=cellAt hb3 3 (.slice A2 d.costs.length c2) rfl;have n4:=cellAt hb3 4 (.slice A3 d.classes.length c3) rfl;have n5:=cellAt hb3 5 (.slice A4 d.chars.length c4) rfl;have n6:=cellAt hb3 6 (.slice A5 d.unknown.length c5) rfl;have n7:=cellAt hb3 7 (.slice A6 d.meta0.length c6) rfl;have n8:=cellAt hb3 8 (.slice A7 d.unkMeta.length c7) rfl;have n9:=cellAt hb3 9 _ rfl;have n10:=cellAt hb3 10 (.slice A8 d.user.length c8) rfl;have HX3:=Hd hb3;clear hb3)|fail)
       first|go_ret|go_ret2
       exact⟨Zh (by rw[HR4.out];rfl),HY.out.2⟩
      ·cases q1
       ·go_wp2_with (first|(go_at_call 28;with_reducible refine (CU.out wr HE.out).mono ?_;rintro e w3 ⟨rfl,hx3⟩;have HY:=Hd (Ai1 hx3 (HE.out.trans hx3 (λ_ _ e=>e)));have hb3:=hx3.heap HX2.out id;clear hx3;have n0:=cellAt hb3 0 (.slice A1 d.words.length c1) rfl;have n1:=cellAt hb3 1 (.int .i64 d.rows) rfl;have n2:=cellAt hb3 2 (.int .i64 d.cols) rfl;have n3:=cellAt hb3 3 (.slice A2 d.costs.length c2) rfl;have n4:=cellAt hb3 4 (.slice A3 d.classes.length c3) rfl;have n5:=cellAt hb3 5 (.slice A4 d.chars.length c4) rfl;have n6:=cellAt hb3 6 (.slice A5 d.unknown.length c5) rfl;have n7:=cellAt hb3 7 (.slice A6 d.meta0.length c6) rfl;have n8:=cellAt hb3 8 (.slice A7 d.unkMeta.length c7) rfl;have n9:=cellAt hb3 9 _ rfl;have n10:=cellAt hb3 10 (.slice A8 d.user.length c8) rfl;have HX3:=Hd hb3;clear hb3)|(go_at_call 15;with_reducible refine (CS2.out w3 HY.out.2).mono ?_;rintro e w4 ⟨rfl,hx4⟩;have HZ:=Hd ((HY.out.2).trans hx4 (λ_ _ e=>e));have hb4:=hx4.heap HX3.out id;clear hx4;have m0:=cellAt hb4 0 (.slice A1 d.words.length c1) rfl;have m1:=cellAt hb4 1 (.int .i64 d.rows) rfl;have m2:=cellAt hb4 2 (.int .i64 d.cols) rfl;have m3:=cellAt hb4 3 (.slice A2 d.costs.length c2) rfl;have m4:=cellAt hb4 4 (.slice A3 d.classes.length c3) rfl;have m5:=cellAt hb4 5 (.slice A4 d.chars.length c4) rfl;have m6:=cellAt hb4 6 (.slice A5 d.unknown.length c5) rfl;have m7:=cellAt hb4 7 (.slice A6 d.meta0.length c6) rfl;have m8:=cellAt hb4 8 (.slice A7 d.unkMeta.length c7) rfl;have m9:=cellAt hb4 9 _ rfl;have m10:=cellAt hb4 10 (.slice A8 d.user.length c8) rfl;clear hb4)|fail)
        first|go_ret|go_ret2
        exact⟨Zh (by rw[HR4.out];rfl),HZ.out⟩
       ·go_wp2_with (first|(go_at_call 28;with_reducible refine (CU.out wr HE.out).mono ?_;rintro e w3 ⟨rfl,hx3⟩;have HY:=Hd (Ai1 hx3 (HE.out.trans hx3 (λ_ _ e=>e)));have hb3:=hx3.heap HX2.out id;clear hx3;have n0:=cellAt hb3 0 (.slice A1 d.words.length c1) rfl;have n1:=cellAt hb3 1 (.int .i64 d.rows) rfl;have n2:=cellAt hb3 2 (.int .i64 d.cols) rfl;have n3:=cellAt hb3 3 (.slice A2 d.costs.length c2) rfl;have n4:=cellAt hb3 4 (.slice A3 d.classes.length c3) rfl;have n5:=cellAt hb3 5 (.slice A4 d.chars.length c4) rfl;have n6:=cellAt hb3 6 (.slice A5 d.unknown.length c5) rfl;have n7:=cellAt hb3 7 (.slice A6 d.meta0.length c6) rfl;have n8:=cellAt hb3 8 (.slice A7 d.unkMeta.length c7) rfl;have n9:=cellAt hb3 9 _ rfl;have n10:=cellAt hb3 10 (.slice A8 d.user.length c8) rfl;have HX3:=Hd hb3;clear hb3)|(go_at_call 15;with_reducible refine (CS2.out w3 HY.out.2).mono ?_;rintro e w4 ⟨rfl,hx4⟩;have HZ:=Hd ((HY.out.2).trans hx4 (λ_ _ e=>e));have hb4:=hx4.heap HX3.out id;clear hx4;have m0:=cellAt hb4 0 (.slice A1 d.words.length c1) rfl;have m1:=cellAt hb4 1 (.int .i64 d.rows) rfl;have m2:=cellAt hb4 2 (.int .i64 d.cols) rfl;have m3:=cellAt hb4 3 (.slice A2 d.costs.length c2) rfl;have m4:=cellAt hb4 4 (.slice A3 d.classes.length c3) rfl;have m5:=cellAt hb4 5 (.slice A4 d.chars.length c4) rfl;have m6:=cellAt hb4 6 (.slice A5 d.unknown.length c5) rfl;have m7:=cellAt hb4 7 (.slice A6 d.meta0.length c6) rfl;have m8:=cellAt hb4 8 (.slice A7 d.unkMeta.length c7) rfl;have m9:=cellAt hb4 9 _ rfl;have m10:=cellAt hb4 10 (.slice A8 d.user.length c8) rfl;clear hb4)|(go_at_call 16;with_reducible refine (CT2.out w4 HZ.out).mono ?_;rintro e w5 ⟨rfl,hx5⟩;have HQ:=Hd (HZ.out.trans hx5 (λ_ _ e=>e));clear hx5)|fail)
        first|go_ret|go_ret2
        exact⟨Zh (by rw[HR4.out];rfl),HQ.out⟩
end Go.Proofs.YtlfoalomaofejaaGreatDoor
