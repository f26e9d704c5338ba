/- impl.Right: whether a dictiona -/
import Derived.Test.YtlfoalomaofejaaGreatDoorM16
import Derived.Laws.OwnMore
import Derived.Test.YtlfoalomaofejaaGreatDoorM18
set_option linter.all false
set_option maxRecDepth 100000
set_option maxHeartbeats 4000000
namespace Go.Proofs.YtlfoalomaofejaaGreatDoor
open Go.RowKit DT
def Uo(n:Int):Bool:=decide (-32768<=n/\n<=32767)
def Mz(d:Zg):Bool:=decide (d.rows<1\/64<d.rows\/d.cols<1\/64<d.cols\/(d.costs.length:Int)≠d.rows*d.cols\/d.classes.length<1\/12<d.classes.length)
def Xz(d:Zg)(x:GWord):Bool:=decide (x.left<0\/d.cols<=x.left\/x.right<0\/d.rows<=x.right) || !Uo x.weight || !Wz x.surface
def Xy(d:Zg)(x:GUnk):Bool:=decide (x.cls<0\/(d.classes.length:Int)<=x.cls\/x.left<0\/d.cols<=x.left\/x.right<0\/d.rows<=x.right) || !Uo x.weight
def Wf(d:Zg)(x:Qv):Bool:=decide (x.lo<0\/65535<x.lo\/x.hi<0\/65535<x.hi\/x.cls<0\/(d.classes.length:Int)<=x.cls)
def V7(x:DT.GMark):Bool:=decide (x.place<0\/100<x.place)
def Zl(d:Zg):Bool:=!Mz d&&(d.costs.all Uo&&(d.words.all (λx=>!Xz d x)&&(d.unknown.all (λx=>!Xy d x)&&(d.chars.all (λx=>!Wf d x)&&((d.meta0++d.unkMeta).all (λx=>!V7 x) &&
 (List.range d.classes.length).all λc=>d.unknown.any λu=>u.cls==(c:Int))))))
theorem Yf(w:World)(cs:Array Value)(T:TypeId)(j:Nat)(u:Value)(h:cs[j]?=some u):(w.alloc (.cells cs T)).cell? ⟨w.heap.size,j,none⟩=some u:=by
 simp only[World.cell?,alloc_at];exact h
theorem Sz{α:Type}(p:α->Bool)(xs:List α)(k:Nat)(q:k<xs.length)(h:p xs[k]=false):xs.all p=false:=by
 rw[List.all_eq_false];exact⟨xs[k],List.getElem_mem q,by simp[h]⟩
theorem Sy{α:Type}(p:α->Bool)(xs:List α)(k:Nat)(q:k<xs.length)(h:(xs.take k).all p=true)(h1:p xs[k]=true):(xs.take (k+1)).all p=true:=by
 rw[List.take_succ_eq_append_getElem q,List.all_append,h];simp[h1]
theorem Pz{α:Type}(p:α->Bool)(xs:List α)(k:Nat)(q:xs.length<=k)(h:(xs.take k).all p=true):xs.all p=true:=by rw[<- h,List.take_of_length_le q]
theorem Zo3{a b:Bool}(h:a=b):Ending.returned (.bool a)=.returned (.bool b):=by rw[h]
def Ve(ms:List DT.GMark):List Value:=ms.flatMap λm=>[.string m.name,.int .i64 m.place]
theorem Na(ms:List DT.GMark):(Ve ms).length=ms.length*2:=by
 induction ms with
 | nil=>rfl
 | cons m l ih=>show ([_,_]++Ve l).length=_;rw[List.length_append,ih,List.length_cons];simp;omega
theorem Nb:∀ (ms:List DT.GMark) (k:Nat) (h:k<ms.length),(Ve ms)[k*2]?=some (.string ms[k].name)/\(Ve ms)[k*2+1]?=some (.int .i64 ms[k].place)
 | m::l,0,_=>⟨rfl,rfl⟩
 | m::l,k+1,h=>by
  have:=Nb l k (by simpa using h);have e:Ve (m::l)=.string m.name :: .int .i64 m.place::Ve l:=rfl;rw[e,(Om:(k+1)*2=k*2+1+1),(Om:k*2+1+1+1=(k*2+1)+1+1)];simp only[List.getElem?_cons_succ,List.getElem_cons_succ];exact this
theorem Fd{w:World}{O:Nat->Prop}{A:Option Addr}{ms:List DT.GMark}(h:tMark.At w O A ms):∀ a,A=some a->∀ j u,(Ve ms)[j]?=some u->w.cell? (a.add j)=some u:=by
 intro a K j u z;have L:j<ms.length*2:=by rw[<- Na];exact (Gl.1 z).1
 obtain⟨b,o,e,_,_,J,I,_⟩:=Rn h (j / 2) Om;obtain⟨g0,G⟩:=Nb ms (j / 2) Om;rw[K]at e;injection e with e
 subst e;rw[Addr.add_lit];rcases Nat.mod_two_eq_zero_or_one j with q|q
 ·rw[(Om:j / 2*2=j)]at J g0;rw[z]at g0;rw[J,<- Option.some.inj g0]
 ·rw[(Om:j / 2*2+1=j)]at G;rw[(Om:o+j / 2*2+1=o+j)]at I;rw[z]at G;rw[I,<- Option.some.inj G]
theorem It(ms:List DT.GMark):∀ u∈Ve ms,u.oneCell'=true:=by
 intro u q;obtain⟨m,_,h⟩:=List.mem_flatMap.1 q;simp only[List.mem_cons,List.mem_nil_iff,or_false]at h;rcases h with rfl|rfl<;>rfl
theorem Zc9(a b:List DT.GMark):Ve (a++b)=Ve a++Ve b:=by simp[Ve]
theorem N8{w:World}{base sz n:Nat}{e:TypeId}{v:Value}{xs:List Value}(h:w.ownsRow base e sz v n xs):w.ownsRow 0 e sz v n xs:=by
 obtain⟨hl,h|⟨g,cap,q,rfl,_,h2⟩⟩:=h
 ·exact⟨hl,.inl h⟩
 ·exact⟨hl,.inr ⟨g,cap,q,rfl,Nat.zero_le _,h2⟩⟩
theorem Yo{w:World}{base sz n g:Nat}{e:TypeId}{v:Value}{xs:List Value}(h:w.ownsRow base e sz v n xs)(q:v.ownBlock=some g):base<=g:=by
 obtain⟨_,⟨rfl,_⟩|⟨z,cap,A,rfl,G,_⟩⟩:=h
 ·cases q
 ·have:z=g:=by simpa [Value.ownBlock] using q
  omega
theorem Lg{P:Program}{ops:Array Oper}{o:Oper}{a:Act}{w:World}{K:Act->World->Prop}{Q:Exit->Act->World->Prop}{E:Prop}
  (J:o.guard=none) (s x:Operand) (t:TypeId) (q:o.op=Op.call { callee:=Callee.builtin Builtin.append,args:=#[s,x],argTypes:=#[t,t] })
  (base:Nat) (e:TypeId) (i:TypeInfo) (size:Nat) (h1:P.underlying t=some (.slice e)) (h2:P.info? e=some i)
  (v:Value) (n:Nat) (xs:List Value) (G:a.eval s=v) (h:w.ownsRow base e size v n xs) (z:a.eval x=.slice none 0 0) (L:K (a.put o.dst v) w) :
  if Region.wanted o (yielded ops a.tmps)=true then Oper.wp P o a w K Q else E:=by
 have A:Region.wanted o (yielded ops a.tmps)=true:=by simp[Region.wanted,J]
 rw[if_pos A];have I:=run_append_owned_none (P:=P) (w:=w) base t o.type e i size h1 h2 v n xs h;unfold Oper.wp;simp only[execOp,q,resolve,invoke,builtin,Sem.run_bind,Sem.run_pure,Result.andThen_ok,List.map_toArray,List.map_cons,List.map_nil,G,z,I];exact L
theorem Zco{us:List GUnk}{k:Nat}(z:k<us.length){f:Nat->Bool}(h:∀ j,f j=(us.take k).any λu=>u.cls==(j:Int)){c:Nat}(q:us[k].cls=(c:Int))(j:Nat):(if j=c then true else f j)=(us.take (k+1)).any λu=>u.cls==(j:Int):=by
 rw[List.take_succ_eq_append_getElem z,List.any_append,<- h j];by_cases e:j=c
 ·subst e;simp[q]
 ·rw[if_neg e];have:((us[k].cls==(j:Int))=false):=by rw[q];simp;omega
  simp[this]
theorem Df(n:Int)(w:World):Calls Tryz.prog 56 #[.int .i64 n] w λe w'=>e=.returned (.bool (Uo n))/\w'=w:=Zgi n w
theorem Lk(d:Zg)(cs:List Value)(O:Nat->Prop)(w:World)(h:tDict.R w O d cs)(hT:U8 w)(bx:d.meta0.length<=2147483647/\d.unkMeta.length<=2147483647) :
  Calls Tryz.prog 16 #[.agg cs.toArray] w λe w'=>e=.returned (.bool (Zl d))/\Zf w w':=by
 obtain⟨A1,c1,A2,c2,A3,c3,A4,c4,A5,c5,A6,c6,A7,c7,A8,c8,rfl,h1,h2,h3,h4,h5,h6,h7,h8,hr,hc⟩:=Y4 h;have mixed:Tryz.prog.follows .mixedOrders=true:=Kr
 have HD:=Hd (Ai1 h1 (Ai1 h2 (Ai1 h4 (Ai1 h5 (Ai1 h6 h7)))));have HT:=Hd hT;have l1:=h1.2.2.1;have l2:=h2.2.2.1;have l3:=h3.2.2.1;have l4:=h4.2.2.1;have l5:=h5.2.2.1;have l6:=h6.2.2.1;have l7:=h7.2.2.1;clear h h1 h2 h3 h4 h5 h6 h7 h8 hT;go_enter Tryz.func16,Tryz.ntmps16
 go_upto_region 1 with fail
 have q0:=Yf w #[.slice A1 d.words.length c1,.int .i64 d.rows,.int .i64 d.cols,.slice A2 d.costs.length c2,.slice A3 d.classes.length c3,.slice A4 d.chars.length c4,.slice A5 d.unknown.length c5,.slice A6 d.meta0.length c6,.slice A7 d.unkMeta.length c7,.bool d.hasUser,.slice A8 d.user.length c8] 30;have lB:w.heap.size<(w.alloc (.cells #[.slice A1 d.words.length c1,.int .i64 d.rows,.int .i64 d.cols,.slice A2 d.costs.length c2,.slice A3 d.classes.length c3,.slice A4 d.chars.length c4,.slice A5 d.unknown.length c5,.slice A6 d.meta0.length c6,.slice A7 d.unkMeta.length c7,.bool d.hasUser,.slice A8 d.user.length c8] 30)).heap.size:=by rw[Za];omega
 have X1:Zf w (w.alloc (.cells #[.slice A1 d.words.length c1,.int .i64 d.rows,.int .i64 d.cols,.slice A2 d.costs.length c2,.slice A3 d.classes.length c3,.slice A4 d.chars.length c4,.slice A5 d.unknown.length c5,.slice A6 d.meta0.length c6,.slice A7 d.unkMeta.length c7,.bool d.hasUser,.slice A8 d.user.length c8] 30)):=(Fl _).alloc _;generalize w.alloc _=V at q0 lB X1⊢;obtain⟨B,hB⟩:∃ B,B=w.heap.size:=⟨_,rfl⟩;rw[<- hB]at q0 lB⊢;clear hB;have Q0:=Hd q0;have K:=Hd X1;clear q0 X1;have k1:V.cell? ⟨B,1,none⟩=some (.int .i64 d.rows):=Q0.out 1 _ rfl;have k2:V.cell? ⟨B,2,none⟩=some (.int .i64 d.cols):=Q0.out 2 _ rfl;have k3:V.cell? ⟨B,3,none⟩=some (.slice A2 d.costs.length c2):=Q0.out 3 _ rfl;have k4:V.cell? ⟨B,4,none⟩=some (.slice A3 d.classes.length c3):=Q0.out 4 _ rfl
 go_cut [54] from 14 to 54 (λv wx=>v=.bool (Mz d)/\wx=V)
 case first =>
  by_cases b1:d.rows<1
  ·have e:Mz d=true:=decide_eq_true (.inl b1);go_wp2_with fail
   go_meet
   case rel=>exact⟨by rw[e],rfl⟩
  by_cases b2:64<d.rows
  ·have e:Mz d=true:=decide_eq_true (.inr (.inl b2));go_wp2_with fail
   go_meet
   case rel=>exact⟨by rw[e],rfl⟩
  by_cases b3:d.cols<1
  ·have e:Mz d=true:=decide_eq_true (.inr (.inr (.inl b3)));go_wp2_with fail
   go_meet
   case rel=>exact⟨by rw[e],rfl⟩
  by_cases b4:64<d.cols
  ·have e:Mz d=true:=decide_eq_true (.inr (.inr (.inr (.inl b4))));go_wp2_with fail
   go_meet
   case rel=>exact⟨by rw[e],rfl⟩
  have ch:0<=d.rows*d.cols/\d.rows*d.cols<=4096:=by
   have e1:d.rows=(d.rows.toNat:Int):=Om;have e2:d.cols=(d.cols.toNat:Int):=Om;have:=Nat.mul_le_mul ((Om:d.rows.toNat<=64)) ((Om:d.cols.toNat<=64));rw[e1,e2];constructor
   ·exact Int.mul_nonneg Om Om
   ·exact_mod_cast this
  have hw:IntKind.i64.wrap (d.rows*d.cols)=d.rows*d.cols:=by rw[IntKind.wrap_i64];omega
  by_cases b5:(d.costs.length:Int)≠d.rows*d.cols
  ·have e:Mz d=true:=decide_eq_true (.inr (.inr (.inr (.inr (.inl b5)))));have cd:((d.costs.length:Int) != d.rows*d.cols)=true:=(by simpa using b5);go_wp2_with fail
   go_meet
   case rel=>exact⟨by rw[e],rfl⟩
  have cd:((d.costs.length:Int) != d.rows*d.cols)=false:=by simpa using b5
  by_cases b6:d.classes.length<1
  ·have cb:(d.classes.length:Int)<1:=Om;have e:Mz d=true:=decide_eq_true (.inr (.inr (.inr (.inr (.inr (.inl b6))))));go_wp2_with fail
   go_meet
   case rel=>exact⟨by rw[e],rfl⟩
  have cb:¬ (d.classes.length:Int)<1:=Om
  by_cases b7:12<d.classes.length
  ·have ca:(12:Int)<d.classes.length:=Om;have e:Mz d=true:=decide_eq_true (.inr (.inr (.inr (.inr (.inr (.inr b7))))));go_wp2_with fail
   go_meet
   case rel=>exact⟨by rw[e],rfl⟩
  have ca:¬ (12:Int)<d.classes.length:=Om
  have e:Mz d=false:=decide_eq_false (by rintro (h|h|h|h|h|h|h)<;>contradiction);go_wp2_with fail
  go_meet
  case rel=>exact⟨by rw[e],rfl⟩
 case rest =>
  obtain⟨rfl,rfl⟩:=hcut;go_step;by_cases ae:Mz d=true
  ·have e:Zl d=false:=by unfold Zl;rw[ae];rfl
   rw[ae];go_wp2_with fail
   exact bodyPost_ret (results_tmp rfl _ _ _) rfl ⟨by rw[e];rfl,K⟩
  ·have ae:Mz d=false:=(by simpa using ae);rw[ae];have af:=Hd ae;clear ae;have cm:Aside _:=K.out;generalize hW:wc=V at *;go_wp2_with fail
   go_loopg [58] d.costs.length (λg1 v wr=>∃ k:Nat,v=.int .i64 k/\k<=d.costs.length/\d.costs.length<=k+g1/\V=wr/\Hid ((d.costs.take k).all Uo=true))
   case atStart=>exact⟨0,rfl,Om,Om,rfl,rfl⟩
   case round =>
    obtain⟨k,rfl,hk,hg,rfl,HA⟩:=hrel;by_cases J:k<d.costs.length
    ·have G:(k:Int)<d.costs.length:=Om;obtain⟨b,o,rfl,_,_,ce,r1,r2⟩:=Zdm (Ya HD.out.2.1.2.2 K.out) k J;have X:=Df d.costs[k] V
     cases hs:Uo d.costs[k] with
     | false =>
      rw[hs]at X;have e:Zl d=false:=by unfold Zl;rw[af.out,Sz _ _ k J hs];rfl
      go_wp2_with (go_at_call 56;refine X.mono ?_;rintro e W3 ⟨rfl,rfl⟩;clear X)
      exact bodyPost_ret (results_tmp rfl _ _ _) rfl ⟨by rw[e];rfl,K⟩
     | true =>
      rw[hs]at X;have HS:=Hd hs;clear hs;go_wp2_with (go_at_call 56;refine X.mono ?_;rintro e W3 ⟨rfl,rfl⟩;clear X)
      go_roundg (d.costs.length-(k+1))
      case measure=>omega
      case rel=>exact⟨k+1,by go_num,Om,Om,rfl,Sy _ _ k J HA HS⟩
    ·have G:¬ (k:Int)<d.costs.length:=Om;have ao:=Hd (Pz _ _ k Om HA.out);have k0:V.cell? ⟨B,0,none⟩=some (.slice A1 d.words.length c1):=Q0.out 0 _ rfl;go_wp2_with fail
     have l0:=HD.out.1.2.2.1
     go_loopg [69] d.words.length (λg1 v wr=>∃ k:Nat,v=.int .i64 k/\k<=d.words.length/\d.words.length<=k+g1/\Hid (Zf V wr)/\Hid ((d.words.take k).all (λx=>!Xz d x)=true))
     case atStart=>exact⟨0,rfl,Om,Om,Fl _,rfl⟩
     case round =>
      clear J G hk hg HA;obtain⟨k,rfl,hk,hg,I,HA⟩:=hrel;have k1:=I.out.cell (Q0.out 1 (.int .i64 d.rows) rfl) id;have k2:=I.out.cell (Q0.out 2 (.int .i64 d.cols) rfl) id;by_cases J:k<d.words.length
      ·have G:(k:Int)<d.words.length:=Om;obtain⟨b,o,p,q,rfl,_,_,⟨Ap,cp,ep,_⟩,⟨Aq,cq,eq,_⟩,ax,Z,e1,e2,e3,e4,e5⟩:=Ji (Ya HD.out.1.2.2 (K.out.then I.out)) k J;cases ep;cases eq;generalize hx:d.words[k]=x at Z e1 e2 e3 e4 e5 ax;have L:=Hd hx;have LK:=Hd J;clear hx;go_upto_region 12 with fail
       have m0:=Yf wr #[.string x.surface,.int .i64 x.left,.int .i64 x.right,.int .i64 x.weight,.slice Ap x.pos.length cp,.slice Aq x.contents.length cq] 53 0 _ rfl;have m1:=Yf wr #[.string x.surface,.int .i64 x.left,.int .i64 x.right,.int .i64 x.weight,.slice Ap x.pos.length cp,.slice Aq x.contents.length cq] 53 1 _ rfl;have m2:=Yf wr #[.string x.surface,.int .i64 x.left,.int .i64 x.right,.int .i64 x.weight,.slice Ap x.pos.length cp,.slice Aq x.contents.length cq] 53 2 _ rfl;have m3:=Yf wr #[.string x.surface,.int .i64 x.left,.int .i64 x.right,.int .i64 x.weight,.slice Ap x.pos.length cp,.slice Aq x.contents.length cq] 53 3 _ rfl;have U:Zf wr (wr.alloc (.cells #[.string x.surface,.int .i64 x.left,.int .i64 x.right,.int .i64 x.weight,.slice Ap x.pos.length cp,.slice Aq x.contents.length cq] 53)):=(Fl _).alloc _;generalize wr.alloc _=wq at m0 m1 m2 m3 U⊢;generalize wr.heap.size=bq at m0 m1 m2 m3⊢;have k1:=U.cell k1 id;have k2:=U.cell k2 id;have cf:=Hd (((HT.out.ext K.out).ext I.out).ext U);have aa:=Hd U;clear U Z e1 e2 e3 e4 e5
       go_cut [106] from 71 to 106 (λv wx=>v=.bool (Xz d x)/\Hid (Zf wq wx))
       case first =>
        by_cases b1:x.left<0
        ·have e:Xz d x=true:=by unfold Xz;rw[decide_eq_true (.inl b1)];rfl
         go_wp2_with fail
         go_meet
         case rel=>exact⟨by rw[e],Fl _⟩
        by_cases b2:d.cols<=x.left
        ·have e:Xz d x=true:=by unfold Xz;rw[decide_eq_true (.inr (.inl b2))];rfl
         go_wp2_with fail
         go_meet
         case rel=>exact⟨by rw[e],Fl _⟩
        by_cases b3:x.right<0
        ·have e:Xz d x=true:=by unfold Xz;rw[decide_eq_true (.inr (.inr (.inl b3)))];rfl
         go_wp2_with fail
         go_meet
         case rel=>exact⟨by rw[e],Fl _⟩
        by_cases b4:d.rows<=x.right
        ·have e:Xz d x=true:=by unfold Xz;rw[decide_eq_true (.inr (.inr (.inr b4)))];rfl
         go_wp2_with fail
         go_meet
         case rel=>exact⟨by rw[e],Fl _⟩
        have Z:Xz d x=(!Uo x.weight || !Wz x.surface):=by unfold Xz;rw[decide_eq_false (by rintro (h|h|h|h)<;>contradiction)];rfl
        cases hs:Uo x.weight with
        | false =>
         rw[hs]at Z;have X:=Df x.weight wq;rw[hs]at X;go_wp2_with (go_at_call 56;refine X.mono ?_;rintro e W3 ⟨rfl,rfl⟩;clear X)
         go_meet
         case rel=>exact⟨by rw[Z];rfl,Fl _⟩
        | true =>
         rw[hs]at Z;have X:=Df x.weight wq;rw[hs]at X;have C2:=Zgq x.surface wq ax cf;have E0:=Hd Z;clear Z;generalize Wz x.surface=pp at C2 E0;cases pp
         all_goals
          go_wp2_with (first|(go_at_call 56;refine X.mono ?_;rintro e W3 ⟨rfl,rfl⟩)|(go_at_call 57;refine C2.mono ?_;rintro e W3 ⟨rfl,bf⟩;have a8:=Hd bf;clear bf))
          go_meet;exact⟨by rw[E0.out];rfl,a8⟩
       case rest =>
        obtain⟨rfl,a8⟩:=hcut;go_step;have M:Hid (Zf V wc):=(I.out.then aa.out).then a8.out
        cases Y:Xz d x with
        | true =>
         have e:Zl d=false:=by
          unfold Zl;rw[af.out,ao.out,Sz (λx=>!Xz d x) _ k LK.out (by rw[L.out,Y];rfl)];rfl
         go_wp2_with fail
         exact bodyPost_ret (results_tmp rfl _ _ _) rfl ⟨by rw[e];rfl,K.out.then M.out⟩
        | false =>
         have ab:=Hd Y;clear Y;go_wp2_with fail
         go_roundg (d.words.length-(k+1))
         case measure=>omega
         case rel=>exact⟨k+1,by go_num,Om,Om,M,Sy _ _ k LK.out HA (by rw[L.out,ab.out];rfl)⟩
      ·have G:¬ (k:Int)<d.words.length:=Om;have ar:=Hd (Pz _ _ k Om HA.out);have k4:=I.out.cell (Q0.out 4 (.slice A3 d.classes.length c3) rfl) id;have k6:=I.out.cell (Q0.out 6 (.slice A5 d.unknown.length c5) rfl) id
       have ci:d.classes.length<=12:=by
        have:=af.out;unfold Mz at this;have:=of_decide_eq_false this;omega
       obtain⟨ib,az⟩:∃ i,Tryz.prog.info? 4=some i:=by
        cases h:Tryz.prog.info? 4 with
        | none =>
         have:(Tryz.prog.info? 4).isSome=true:=Kr;rw[h]at this;cases this
        | some i=>exact⟨i,rfl⟩
       have al:(Tryz.prog.info? 4).map (λi=>(i.zero,i.size,i.bytes))=some (some (.bool false),1,1):=Kr;rw[az]at al;simp only[Option.map_some,Option.some.injEq,Prod.mk.injEq]at al;obtain⟨be,bd,bc⟩:=al
       have bz:∀ W:World,(Instr.makeSlice 119 (.int .i64 (d.classes.length:Int)) (.int .i64 (d.classes.length:Int))).run Tryz.prog W=.ok (.slice (some ⟨W.heap.size,0,none⟩) d.classes.length d.classes.length) (W.alloc (.cells (madeCells #[.bool false] d.classes.length) 4)):=λW=>by
        have:=run_make (P:=Tryz.prog) W 119 4 ib _ Tryz.underlying119 az be .i64 .i64 d.classes.length d.classes.length Om Om (by rw[bc];omega) Om;rw[bd,Nat.mul_one]at this;exact this
       clear az be bd bc;go_upto_region 16 with fail
       have ai:=World.rowIs_made wr (.bool false) d.classes.length 4;have XT:Zf V (wr.alloc (.cells (madeCells #[.bool false] d.classes.length) 4)):=I.out.alloc _;have bv:V.heap.size<=wr.heap.size:=I.out.size;have bn:(wr.alloc (.cells (madeCells #[.bool false] d.classes.length) 4)).cell? ⟨B,6,none⟩=some (.slice A5 d.unknown.length c5):=XT.cell (Q0.out 6 _ rfl) id;obtain⟨tb,au⟩:∃ tb,tb=wr.heap.size:=⟨_,rfl⟩;rw[<- au]at ai bv⊢;have RW:=Hd ai;have XT:=Hd XT;clear ai au bz k6 k4 I;generalize wr.alloc _=wt at RW XT bn⊢;go_wp2_with fail
       go_loopg [115] d.unknown.length (λg1 v wr=>∃ (k:Nat) (f:Nat->Bool),v=.int .i64 k/\k<=d.unknown.length/\d.unknown.length<=k+g1/\Hid (Zf V wr)/\Hid ((d.unknown.take k).all (λx=>!Xy d x)=true)/\Hid (wr.rowIs tb 4 d.classes.length (λj=>.bool (f j)))/\Hid (∀ j:Nat,f j=(d.unknown.take k).any λu=>u.cls==(j:Int)))
       case atStart=>exact⟨0,λ_=>false,rfl,Om,Om,XT,rfl,RW,λj=>rfl⟩
       case round =>
        clear J G hk hg HA;obtain⟨k,f,rfl,hk,hg,I,HA,RW,HF⟩:=hrel;have k1:=I.out.cell (Q0.out 1 (.int .i64 d.rows) rfl) id;have k2:=I.out.cell (Q0.out 2 (.int .i64 d.cols) rfl) id;have k4:=I.out.cell (Q0.out 4 (.slice A3 d.classes.length c3) rfl) id;by_cases J:k<d.unknown.length
        ·have G:(k:Int)<d.unknown.length:=Om;obtain⟨b,o,q,rfl,_,_,⟨Aq,cq,eq,_⟩,Z,e1,e2,e3,e4⟩:=Zh0 (Ya HD.out.2.2.2.1.2.2 (K.out.then I.out)) k J;cases eq;generalize hx:d.unknown[k]=x at Z e1 e2 e3 e4;have L:=Hd hx;have LK:=Hd J;clear hx;go_upto_region 19 with fail
         have m0:=Yf wr #[.int .i64 x.cls,.int .i64 x.left,.int .i64 x.right,.int .i64 x.weight,.slice Aq x.contents.length cq] 36 0 _ rfl;have m1:=Yf wr #[.int .i64 x.cls,.int .i64 x.left,.int .i64 x.right,.int .i64 x.weight,.slice Aq x.contents.length cq] 36 1 _ rfl;have m2:=Yf wr #[.int .i64 x.cls,.int .i64 x.left,.int .i64 x.right,.int .i64 x.weight,.slice Aq x.contents.length cq] 36 2 _ rfl;have m3:=Yf wr #[.int .i64 x.cls,.int .i64 x.left,.int .i64 x.right,.int .i64 x.weight,.slice Aq x.contents.length cq] 36 3 _ rfl;have U:Zf wr (wr.alloc (.cells #[.int .i64 x.cls,.int .i64 x.left,.int .i64 x.right,.int .i64 x.weight,.slice Aq x.contents.length cq] 36)):=(Fl _).alloc _;have RQ:=RW.out.alloc (.cells #[.int .i64 x.cls,.int .i64 x.left,.int .i64 x.right,.int .i64 x.weight,.slice Aq x.contents.length cq] 36);generalize wr.alloc _=wq at m0 m1 m2 m3 U RQ⊢;generalize wr.heap.size=bq at m0 m1 m2 m3⊢;have k1:=U.cell k1 id;have k2:=U.cell k2 id;have k4:=U.cell k4 id;have aa:=Hd U;have RQ:=Hd RQ;clear U Z e1 e2 e3 e4
         go_cut [159] from 119 to 159 (λv wx=>v=.bool (Xy d x)/\wq=wx)
         case first =>
          by_cases b1:x.cls<0
          ·have e:Xy d x=true:=by unfold Xy;rw[decide_eq_true (.inl b1)];rfl
           go_wp2_with fail
           go_meet
           case rel=>exact⟨by rw[e],rfl⟩
          by_cases b2:(d.classes.length:Int)<=x.cls
          ·have e:Xy d x=true:=by unfold Xy;rw[decide_eq_true (.inr (.inl b2))];rfl
           go_wp2_with fail
           go_meet
           case rel=>exact⟨by rw[e],rfl⟩
          by_cases b3:x.left<0
          ·have e:Xy d x=true:=by unfold Xy;rw[decide_eq_true (.inr (.inr (.inl b3)))];rfl
           go_wp2_with fail
           go_meet
           case rel=>exact⟨by rw[e],rfl⟩
          by_cases b4:d.cols<=x.left
          ·have e:Xy d x=true:=by unfold Xy;rw[decide_eq_true (.inr (.inr (.inr (.inl b4))))];rfl
           go_wp2_with fail
           go_meet
           case rel=>exact⟨by rw[e],rfl⟩
          by_cases b5:x.right<0
          ·have e:Xy d x=true:=by unfold Xy;rw[decide_eq_true (.inr (.inr (.inr (.inr (.inl b5)))))];rfl
           go_wp2_with fail
           go_meet
           case rel=>exact⟨by rw[e],rfl⟩
          by_cases b6:d.rows<=x.right
          ·have e:Xy d x=true:=by unfold Xy;rw[decide_eq_true (.inr (.inr (.inr (.inr (.inr b6)))))];rfl
           go_wp2_with fail
           go_meet
           case rel=>exact⟨by rw[e],rfl⟩
          have Z:Xy d x = !Uo x.weight:=by unfold Xy;rw[decide_eq_false (by rintro (h|h|h|h|h|h)<;>contradiction)];rfl
          have X:=Df x.weight wq;have E0:=Hd Z;clear Z;generalize Uo x.weight=pp at X E0;cases pp
          all_goals
           go_wp2_with (go_at_call 56;refine X.mono ?_;rintro e W3 ⟨rfl,rfl⟩;clear X)
           go_meet;exact⟨by rw[E0.out];rfl,rfl⟩
         case rest =>
          obtain⟨rfl,rfl⟩:=hcut;go_step;have M:Hid (Zf V wq):=I.out.then aa.out
          cases Y:Xy d x with
          | true =>
           have e:Zl d=false:=by
            unfold Zl;rw[af.out,ao.out,ar.out,Sz (λx=>!Xy d x) _ k LK.out (by rw[L.out,Y];rfl)];rfl
           go_wp2_with fail
           exact bodyPost_ret (results_tmp rfl _ _ _) rfl ⟨by rw[e];rfl,K.out.then M.out⟩
          | false =>
           have b0:0<=x.cls/\x.cls<d.classes.length:=by
            unfold Xy at Y;have:=of_decide_eq_false (Bool.or_eq_false_iff.1 Y).1;omega
           obtain⟨cc,a6⟩:∃ cc:Nat,x.cls=cc:=⟨x.cls.toNat,Om⟩;rw[a6]at m0;have bj:cc<d.classes.length:=Om;have b8:(cc:Int)<d.classes.length:=Om;have t0:=RQ.out.cell bj;have t1:=RQ.out.frozen cc;have ab:=Hd (Ai1 Y a6);clear Y a6 b0;go_wp2_with fail
           go_roundg (d.unknown.length-(k+1))
           case measure=>omega
           case rel=>exact⟨k+1,λj=>if j=cc then true else f j,by go_num,Om,Om,Fr.setCell M.out _ _ (λq=>by have:tb<V.heap.size:=q;omega),Sy _ _ k LK.out HA (by rw[L.out,ab.out.1];rfl),(RQ.out.set cc (.bool true)).congr (λj _=>by by_cases e:j=cc<;>simp[e]),Zco LK.out HF.out (by rw[L.out];exact ab.out.2)⟩
        ·have G:¬ (k:Int)<d.unknown.length:=Om;have bb:=Hd (Pz _ _ k Om HA.out);have HF:Hid (∀ j:Nat,f j=d.unknown.any λu=>u.cls==(j:Int)):=λj=>by rw[HF.out j,List.take_of_length_le Om]
         have k5:=I.out.cell (Q0.out 5 (.slice A4 d.chars.length c4) rfl) id;go_wp2_with fail
         go_loopg [168] d.chars.length (λg1 v wr=>∃ k:Nat,v=.int .i64 k/\k<=d.chars.length/\d.chars.length<=k+g1/\Hid (Zf V wr)/\Hid ((d.chars.take k).all (λx=>!Wf d x)=true)/\Hid (wr.rowIs tb 4 d.classes.length (λj=>.bool (f j))))
         case atStart=>exact⟨0,rfl,Om,Om,I,rfl,RW⟩
         case round =>
          clear J G hk hg HA I RW;obtain⟨k,rfl,hk,hg,I,HA,RW⟩:=hrel;have k4:=I.out.cell (Q0.out 4 (.slice A3 d.classes.length c3) rfl) id;by_cases J:k<d.chars.length
          ·have G:(k:Int)<d.chars.length:=Om;obtain⟨b,o,rfl,_,_,Z,e1,e2⟩:=Zb1 (Ya HD.out.2.2.1.2.2 (K.out.then I.out)) k J;generalize hx:d.chars[k]=x at Z e1 e2;have L:=Hd hx;have LK:=Hd J;clear hx;go_upto_region 26 with fail
           have m0:=Yf wr #[.int .i64 x.lo,.int .i64 x.hi,.int .i64 x.cls] 121 0 _ rfl;have m1:=Yf wr #[.int .i64 x.lo,.int .i64 x.hi,.int .i64 x.cls] 121 1 _ rfl;have m2:=Yf wr #[.int .i64 x.lo,.int .i64 x.hi,.int .i64 x.cls] 121 2 _ rfl;have U:Zf wr (wr.alloc (.cells #[.int .i64 x.lo,.int .i64 x.hi,.int .i64 x.cls] 121)):=(Fl _).alloc _;have RQ:=RW.out.alloc (.cells #[.int .i64 x.lo,.int .i64 x.hi,.int .i64 x.cls] 121);generalize wr.alloc _=wq at m0 m1 m2 U RQ⊢;generalize wr.heap.size=bq at m0 m1 m2⊢;have k4:=U.cell k4 id;have aa:=Hd U;have RQ:=Hd RQ;clear U Z e1 e2
           go_cut [202] from 172 to 202 (λv wx=>v=.bool (Wf d x)/\wq=wx)
           case first =>
            by_cases b1:x.lo<0
            ·have e:Wf d x=true:=decide_eq_true (.inl b1);go_wp2_with fail
             go_meet
             case rel=>exact⟨by rw[e],rfl⟩
            by_cases b2:65535<x.lo
            ·have e:Wf d x=true:=decide_eq_true (.inr (.inl b2));go_wp2_with fail
             go_meet
             case rel=>exact⟨by rw[e],rfl⟩
            by_cases b3:x.hi<0
            ·have e:Wf d x=true:=decide_eq_true (.inr (.inr (.inl b3)));go_wp2_with fail
             go_meet
             case rel=>exact⟨by rw[e],rfl⟩
            by_cases b4:65535<x.hi
            ·have e:Wf d x=true:=decide_eq_true (.inr (.inr (.inr (.inl b4))));go_wp2_with fail
             go_meet
             case rel=>exact⟨by rw[e],rfl⟩
            by_cases b5:x.cls<0
            ·have e:Wf d x=true:=decide_eq_true (.inr (.inr (.inr (.inr (.inl b5)))));go_wp2_with fail
             go_meet
             case rel=>exact⟨by rw[e],rfl⟩
            by_cases b6:(d.classes.length:Int)<=x.cls
            ·have e:Wf d x=true:=decide_eq_true (.inr (.inr (.inr (.inr (.inr b6)))));go_wp2_with fail
             go_meet
             case rel=>exact⟨by rw[e],rfl⟩
            have e:Wf d x=false:=decide_eq_false (by rintro (h|h|h|h|h|h)<;>contradiction);go_wp2_with fail
            go_meet
            case rel=>exact⟨by rw[e],rfl⟩
           case rest =>
            obtain⟨rfl,rfl⟩:=hcut;go_step;have M:Hid (Zf V wq):=I.out.then aa.out
            cases Y:Wf d x with
            | true =>
             have e:Zl d=false:=by
              unfold Zl;rw[af.out,ao.out,ar.out,bb.out,Sz (λx=>!Wf d x) _ k LK.out (by rw[L.out,Y];rfl)];rfl
             go_wp2_with fail
             exact bodyPost_ret (results_tmp rfl _ _ _) rfl ⟨by rw[e];rfl,K.out.then M.out⟩
            | false =>
             have ab:=Hd Y;clear Y;go_wp2_with fail
             go_roundg (d.chars.length-(k+1))
             case measure=>omega
             case rel=>exact⟨k+1,by go_num,Om,Om,M,Sy _ _ k LK.out HA (by rw[L.out,ab.out];rfl),RQ⟩
          ·have G:¬ (k:Int)<d.chars.length:=Om;have bm:=Hd (Pz _ _ k Om HA.out);have k7:=I.out.cell (Q0.out 7 (.slice A6 d.meta0.length c6) rfl) id;have k8:=I.out.cell (Q0.out 8 (.slice A7 d.unkMeta.length c7) rfl) id;go_upto_region 29 with fail
           obtain⟨im,bi,zm,bu,bt,bs,bo⟩:=Qy;have hM:=HD.out.2.2.2.2.1;have hU:=HD.out.2.2.2.2.2
           have X:=Zdy A6 d.meta0.length c6 (Ve d.meta0) wr.drew (Na _) (λe=>by
            have:=hM.2.1 e
            exact⟨Om,this⟩) (λa ha=>Fd (Ya hM.2.2 ((K.out.then I.out).drew)) a ha) (It _) bx.1
           go_cut [209,210,211] from 204 to 211 (λv l z wx=>∃ A c,v=.slice A (d.meta0.length+d.unkMeta.length) c/\l=.int .i64 ((d.meta0.length:Int)+d.unkMeta.length)/\z=.int .i64 0/\Hid (Zf V wx)/\Hid (wx.rowIs tb 4 d.classes.length (λj=>.bool (f j)))/\Hid (wx.ownsRow 0 76 2 v (d.meta0.length+d.unkMeta.length) (Ve (d.meta0++d.unkMeta))))
           case first =>
            rcases A7 with _|ad
            ·have aw:d.unkMeta=[]:=List.eq_nil_of_length_eq_zero (by have:=hU.2.1 rfl;have:=hU.1;omega);have b9:c7=0:=hU.2.1 rfl;subst b9;have ay:d.unkMeta.length=0:=by rw[aw];rfl
             rw[ay]at k8;have aq:=Hd (Ai1 ay aw);clear hM hU ay aw
             go_region_law (first|(refine Lg rfl _ _ 27 rfl 0 76 im 2 Tryz.underlying27 bi v d.meta0.length _ rfl HV.out.1 rfl ?_;obtain⟨A',a7,av⟩:=Zm HV.out.1;subst av)|(go_simp;go_at_call 58;refine X.mono ?_;rintro e wv ⟨v,rfl,hv,ac,_⟩;have k8:=ac.cell k8 id;have HV:=Hd (Ai1 (N8 hv) (λj=>Yo (g:=j) hv));have ah:=Hd ac;clear hv ac))
             all_goals (go_wp2;go_meet)
             all_goals
              exact⟨A',a7,by rw[aq.1];rfl,by rw[aq.1];first|rfl|simp,rfl,(I.out.drew).then ah.out,Wa RW.out (S:=λ_=>False) (((Fl wr).drew).then ah.out) id,by rw[aq.1,aq.2,List.append_nil];exact HV.out.1⟩
            ·have HU:=Hd (Fd (Ya hU.2.2 ((K.out.then I.out).drew)) ad rfl);clear hM hU
             go_region_law (first|(refine Z9 rfl _ _ 27 rfl 0 76 im zm 2 24 Tryz.underlying27 bi bu bt bs bo (by decide) v d.meta0.length _ rfl HV.out.1 ad d.unkMeta.length c7 (Ve d.unkMeta) rfl (Na _) (λj u hj=>ah.out.cell (HU.out j u hj) id) (It _) (by unfold maxLen;omega) Om (Nat.zero_le _) ?_;intro v' w3 aj am bw cj;obtain⟨A',a7,av⟩:=Zm aj;subst av)|(go_simp;go_at_call 58;refine X.mono ?_;rintro e wv ⟨v,rfl,hv,ac,_⟩;have k8:=ac.cell k8 id;have HV:=Hd (Ai1 (N8 hv) (λj=>Yo (g:=j) hv));have ah:=Hd ac;clear hv ac))
             all_goals (go_wp2;go_meet)
             all_goals
              have ag:∀ k,v.ownBlock=some k->k<wr.heap.size->False:=λk e hk=>by have:wr.heap.size<=k:=HV.out.2 k e;omega
              have ax:=I.out.size;exact⟨A',a7,rfl,rfl,rfl,((I.out.drew).then ah.out).grown am (λk e hk=>ag k e Om),Wa RW.out (S:=λ_=>False) ((((Fl wr).drew).then ah.out).grown am ag) id,by rw[Zc9];exact aj⟩
           case rest =>
            obtain⟨A,c,rfl,rfl,rfl,I,RW,HO⟩:=hcut;go_step;have bg:(d.meta0++d.unkMeta).length=d.meta0.length+d.unkMeta.length:=List.length_append;obtain⟨ms,ak⟩:∃ ms,ms=d.meta0++d.unkMeta:=⟨_,rfl⟩;rw[<- ak]at bg HO;obtain⟨N,hN⟩:∃ N,N=d.meta0.length+d.unkMeta.length:=⟨_,rfl⟩;have bk:(d.meta0.length:Int)+d.unkMeta.length=N:=Om;rw[<- hN]at HO bg;rw[<- hN,bk];have ck:N<=4294967294:=Om;have bl:=Hd ak;clear hN bk ak X;go_wp2_with fail
            go_loopg [211] N (λg1 v wr=>∃ k:Nat,v=.int .i64 k/\k<=N/\N<=k+g1/\Hid (Zf V wr)/\Hid (Zf wc wr)/\Hid ((ms.take k).all (λx=>!V7 x)=true))
            case atStart=>exact⟨0,rfl,Om,Om,I,Fl _,rfl⟩
            case round =>
             clear J G hk hg HA I;obtain⟨k,rfl,hk,hg,I,ap,HA⟩:=hrel;by_cases J:k<N
             ·have G:(k:Int)<N:=Om;have bh:k<ms.length:=Om
              obtain⟨g,rfl,a1⟩:∃ g,A=some ⟨g,0,none⟩/\∀ j u,(Ve ms)[j]?=some u->wc.cell? ⟨g,j,none⟩=some u:=by
               rcases HO.out.2 with ⟨e,q⟩|⟨g,cap,cl,e,_,_,_⟩
               ·exfalso;simp only[Value.slice.injEq]at e;omega
               ·simp only[Value.slice.injEq,true_and]at e;obtain⟨rfl,rfl⟩:=e;refine⟨g,rfl,λj u hu=>?_⟩;have:=HO.out.cells (g:=g) rfl j u hu;rw[Addr.add_lit,Nat.zero_add]at this;exact this
              obtain⟨g0,g1⟩:=Nb ms k bh;have Z:=ap.out.cell (a1 _ _ g0) id;have e1:=ap.out.cell (a1 _ _ g1) id;generalize hx:ms[k]=x at Z e1;have L:=Hd hx;have LK:=Hd bh;clear hx a1 g0 g1;go_upto_region 32 with fail
              have m1:=Yf wr #[.string x.name,.int .i64 x.place] 76 1 _ rfl;have U:Zf wr (wr.alloc (.cells #[.string x.name,.int .i64 x.place] 76)):=(Fl _).alloc _;generalize wr.alloc _=wq at m1 U⊢;generalize wr.heap.size=bq at m1⊢;have aa:=Hd U;clear U Z e1
              go_cut [222] from 215 to 222 (λv wx=>v=.bool (V7 x)/\wq=wx)
              case first =>
               by_cases b1:x.place<0
               ·have e:V7 x=true:=decide_eq_true (.inl b1);go_wp2_with fail
                go_meet
                case rel=>exact⟨by rw[e],rfl⟩
               by_cases b2:100<x.place
               ·have e:V7 x=true:=decide_eq_true (.inr b2);go_wp2_with fail
                go_meet
                case rel=>exact⟨by rw[e],rfl⟩
               have e:V7 x=false:=decide_eq_false (by rintro (h|h)<;>contradiction);go_wp2_with fail
               go_meet
               case rel=>exact⟨by rw[e],rfl⟩
              case rest =>
               obtain⟨rfl,rfl⟩:=hcut;go_step;have M:Hid (Zf V wq):=I.out.then aa.out
               cases Y:V7 x with
               | true =>
                have e:Zl d=false:=by
                 unfold Zl;rw[af.out,ao.out,ar.out,bb.out,bm.out,<- bl.out,Sz (λx=>!V7 x) _ k LK.out (by rw[L.out,Y];rfl)];rfl
                go_wp2_with fail
                exact bodyPost_ret (results_tmp rfl _ _ _) rfl ⟨by rw[e];rfl,K.out.then M.out⟩
               | false =>
                have ab:=Hd Y;clear Y;go_wp2_with fail
                go_roundg (N-(k+1))
                case measure=>omega
                case rel=>exact⟨k+1,by go_num,Om,Om,M,ap.out.then aa.out,Sy _ _ k LK.out HA (by rw[L.out,ab.out];rfl)⟩
             ·have G:¬ (k:Int)<N:=Om;have cg:=Hd (Pz _ _ k Om HA.out);have C2:=He tb d.classes.length d.classes.length f wr (λj hj=>(Wa RW.out ap.out id).cell hj) Om;go_wp2_with (go_at_call 59;refine C2.mono ?_;rintro e W3 ⟨⟨b,rfl,Y⟩,rfl⟩;clear C2)
              have e:Zl d = !b:=by
               unfold Zl;rw[af.out,ao.out,ar.out,bb.out,bm.out,<- bl.out,cg.out];simp only[Bool.not_false,Bool.true_and]
               cases b with
               | true =>
                obtain⟨j,hj,hf⟩:=Y.1 rfl;rw[Sz _ _ j (by simpa using hj) (by simp only[List.getElem_range];rw[<- HF.out j];exact hf)];rfl
               | false =>
                have:(List.range d.classes.length).all (λc=>d.unknown.any λu=>u.cls==(c:Int))=true:=by
                 rw[List.all_eq_true];intro j hj;rw[<- HF.out j]
                 cases hf:f j with
                 | true=>rfl
                 | false=>exact absurd (Y.2 ⟨j,List.mem_range.1 hj,hf⟩) (by simp)
                rw[this];rfl
              first|go_ret|go_ret2
              exact⟨by rw[e];rfl,K.out.then I.out⟩
end Go.Proofs.YtlfoalomaofejaaGreatDoor
