/- impl.Right: whether a dictiona -/
import Derived.Test.YtlfoalomaofejaaGreatDoorC17
import Derived.Laws.OwnMore
import Derived.Test.YtlfoalomaofejaaGreatDoorC19
set_option linter.all false
set_option maxRecDepth 100000
set_option maxHeartbeats 4000000
namespace Go.Proofs.YtlfoalomaofejaaGreatDoor
open Go.RowKit DT
def Uf(n:Int):Bool:=decide (-32768<=n/\n<=32767)
def Mj(d:Zg):Bool:=decide (d.rows<1\/64<d.rows\/d.cols<1\/64<d.cols\/(d.costs.length:Int)≠d.rows*d.cols\/d.classes.length<1\/12<d.classes.length)
def Xr(d:Zg)(x:GWord):Bool:=decide (x.left<0\/d.cols<=x.left\/x.right<0\/d.rows<=x.right) || !Uf x.weight || !Ws x.surface
def Xq(d:Zg)(x:GUnk):Bool:=decide (x.cls<0\/(d.classes.length:Int)<=x.cls\/x.left<0\/d.cols<=x.left\/x.right<0\/d.rows<=x.right) || !Uf x.weight
def Xz(d:Zg)(x:Qq):Bool:=decide (x.lo<0\/65535<x.lo\/x.hi<0\/65535<x.hi\/x.cls<0\/(d.classes.length:Int)<=x.cls)
def Ta(x:DT.GMark):Bool:=decide (x.place<0\/100<x.place)
def Zm(d:Zg):Bool:=!Mj d&&(d.costs.all Uf&&(d.words.all (λx=>!Xr d x)&&(d.unknown.all (λx=>!Xq d x)&&(d.chars.all (λx=>!Xz d x)&&((d.meta0++d.unkMeta).all (λx=>!Ta x) &&
 (List.range d.classes.length).all λc=>d.unknown.any λu=>u.cls==(c:Int))))))
theorem Yb(w:World)(cs:Array Value)(T:TypeId)(j:Nat)(u:Value)(h:cs[j]?=some u):(w.alloc (.cells cs T)).cell? ⟨w.heap.size,j,none⟩=some u:=by
 simp only[World.cell?,alloc_at];exact h
theorem Po{α:Type}(p:α->Bool)(xs:List α)(k:Nat)(hk:xs.length<=k)(h:(xs.take k).all p=true):xs.all p=true:=by rw[<- h,List.take_of_length_le hk]
def Ww(ms:List DT.GMark):List Value:=ms.flatMap λm=>[.string m.name,.int .i64 m.place]
theorem Oz(ms:List DT.GMark):(Ww ms).length=ms.length*2:=by
 induction ms with
 | nil=>rfl
 | cons m l ih=>show ([_,_]++Ww l).length=_;rw[List.length_append,ih,List.length_cons];simp;omega
theorem O3:∀ (ms:List DT.GMark) (k:Nat) (hk:k<ms.length),(Ww ms)[k*2]?=some (.string ms[k].name)/\(Ww ms)[k*2+1]?=some (.int .i64 ms[k].place)
 | m::l,0,_=>⟨rfl,rfl⟩
 | m::l,k+1,hk=>by
  have:=O3 l k (by simpa using hk);have e:Ww (m::l)=.string m.name :: .int .i64 m.place::Ww l:=rfl;rw[e,(Om:(k+1)*2=k*2+1+1),(Om:k*2+1+1+1=(k*2+1)+1+1)];simp only[List.getElem?_cons_succ,List.getElem_cons_succ];exact this
theorem Gi{w:World}{O:Nat->Prop}{A:Option Addr}{ms:List DT.GMark}(h:tMark.At w O A ms):∀ a,A=some a->∀ j u,(Ww ms)[j]?=some u->w.cell? (a.add j)=some u:=by
 intro a ha j u hu;have hj:j<ms.length*2:=by rw[<- Oz];exact (Gl.1 hu).1
 obtain⟨b,o,e,_,_,c0,c1,_⟩:=Dc h (j / 2) Om;obtain⟨g0,g1⟩:=O3 ms (j / 2) Om;rw[ha]at e;injection e with e
 subst e;rw[Addr.add_lit];rcases Nat.mod_two_eq_zero_or_one j with q|q
 ·rw[(Om:j / 2*2=j)]at c0 g0;rw[hu]at g0;rw[c0,<- Option.some.inj g0]
 ·rw[(Om:j / 2*2+1=j)]at g1;rw[(Om:o+j / 2*2+1=o+j)]at c1;rw[hu]at g1;rw[c1,<- Option.some.inj g1]
theorem J6(ms:List DT.GMark):∀ u∈Ww ms,u.oneCell'=true:=by
 intro u hu;obtain⟨m,_,h⟩:=List.mem_flatMap.1 hu;simp only[List.mem_cons,List.mem_nil_iff,or_false]at h;rcases h with rfl|rfl<;>rfl
theorem Zcj(a b:List DT.GMark):Ww (a++b)=Ww a++Ww b:=by simp[Ww]
theorem Ns{w:World}{base sz n:Nat}{e:TypeId}{v:Value}{xs:List Value}(h:w.ownsRow base e sz v n xs):w.ownsRow 0 e sz v n xs:=by
 obtain⟨hl,h|⟨g,cap,cur,rfl,_,h2⟩⟩:=h
 ·exact⟨hl,.inl h⟩
 ·exact⟨hl,.inr ⟨g,cap,cur,rfl,Nat.zero_le _,h2⟩⟩
theorem Y1{w:World}{base sz n g:Nat}{e:TypeId}{v:Value}{xs:List Value}(h:w.ownsRow base e sz v n xs)(hg:v.ownBlock=some g):base<=g:=by
 obtain⟨_,⟨rfl,_⟩|⟨g',cap,cur,rfl,hb,_⟩⟩:=h
 ·cases hg
 ·have:g'=g:=by simpa [Value.ownBlock] using hg
  omega
theorem Mz{P:Program}{ops:Array Oper}{o:Oper}{a:Act}{w:World}{K:Act->World->Prop}{Q:Exit->Act->World->Prop}{E:Prop}
  (hg:o.guard=none) (s x:Operand) (t:TypeId) (hop:o.op=Op.call { callee:=Callee.builtin Builtin.append,args:=#[s,x],argTypes:=#[t,t] })
  (base:Nat) (e:TypeId) (i:TypeInfo) (size:Nat) (h1:P.underlying t=some (.slice e)) (h2:P.info? e=some i)
  (v:Value) (n:Nat) (xs:List Value) (hs:a.eval s=v) (hown:w.ownsRow base e size v n xs) (hx:a.eval x=.slice none 0 0) (hK:K (a.put o.dst v) w) :
  if Region.wanted o (yielded ops a.tmps)=true then Oper.wp P o a w K Q else E:=by
 have hw:Region.wanted o (yielded ops a.tmps)=true:=by simp[Region.wanted,hg]
 rw[if_pos hw];have hr:=run_append_owned_none (P:=P) (w:=w) base t o.type e i size h1 h2 v n xs hown;unfold Oper.wp;simp only[execOp,hop,resolve,invoke,builtin,Sem.run_bind,Sem.run_pure,Result.andThen_ok,List.map_toArray,List.map_cons,List.map_nil,hs,hx,hr];exact hK
theorem Zbz{us:List GUnk}{k:Nat}(hk:k<us.length){f:Nat->Bool}(h:∀ j,f j=(us.take k).any λu=>u.cls==(j:Int)){c:Nat}(hc:us[k].cls=(c:Int))(j:Nat):(if j=c then true else f j)=(us.take (k+1)).any λu=>u.cls==(j:Int):=by
 rw[List.take_succ_eq_append_getElem hk,List.any_append,<- h j];by_cases e:j=c
 ·subst e;simp[hc]
 ·rw[if_neg e];have:((us[k].cls==(j:Int))=false):=by rw[hc];simp;omega
  simp[this]
theorem En(n:Int)(w:World):Calls Tryz.prog 56 #[.int .i64 n] w λe w'=>e=.returned (.bool (Uf n))/\w'=w:=Zfh n w
theorem M3(d:Zg)(cs:List Value)(O:Nat->Prop)(w:World)(h:tDict.R w O d cs)(hT:U8 w)(hmt:d.meta0.length<=2147483647/\d.unkMeta.length<=2147483647) :
  Calls Tryz.prog 16 #[.agg cs.toArray] w λe w'=>e=.returned (.bool (Zm d))/\Zf w w':=by
 obtain⟨A1,c1,A2,c2,A3,c3,A4,c4,A5,c5,A6,c6,A7,c7,A8,c8,rfl,h1,h2,h3,h4,h5,h6,h7,h8,hr,hc⟩:=Yy h;have mixed:Tryz.prog.follows .mixedOrders=true:=Kr
 have HD:=Hd (Ai1 h1 (Ai1 h2 (Ai1 h4 (Ai1 h5 (Ai1 h6 h7)))));have HT:=Hd hT;have l1:=h1.2.2.1;have l2:=h2.2.2.1;have l3:=h3.2.2.1;have l4:=h4.2.2.1;have l5:=h5.2.2.1;have l6:=h6.2.2.1;have l7:=h7.2.2.1;clear h h1 h2 h3 h4 h5 h6 h7 h8 hT;go_enter Tryz.func16,Tryz.ntmps16
 go_upto_region 1 with fail
 have q0:=Yb w #[.slice A1 d.words.length c1,.int .i64 d.rows,.int .i64 d.cols,.slice A2 d.costs.length c2,.slice A3 d.classes.length c3,.slice A4 d.chars.length c4,.slice A5 d.unknown.length c5,.slice A6 d.meta0.length c6,.slice A7 d.unkMeta.length c7,.bool d.hasUser,.slice A8 d.user.length c8] 30;have lB:w.heap.size<(w.alloc (.cells #[.slice A1 d.words.length c1,.int .i64 d.rows,.int .i64 d.cols,.slice A2 d.costs.length c2,.slice A3 d.classes.length c3,.slice A4 d.chars.length c4,.slice A5 d.unknown.length c5,.slice A6 d.meta0.length c6,.slice A7 d.unkMeta.length c7,.bool d.hasUser,.slice A8 d.user.length c8] 30)).heap.size:=by rw[Za];omega
 have X1:Zf w (w.alloc (.cells #[.slice A1 d.words.length c1,.int .i64 d.rows,.int .i64 d.cols,.slice A2 d.costs.length c2,.slice A3 d.classes.length c3,.slice A4 d.chars.length c4,.slice A5 d.unknown.length c5,.slice A6 d.meta0.length c6,.slice A7 d.unkMeta.length c7,.bool d.hasUser,.slice A8 d.user.length c8] 30)):=(Fl _).alloc _;generalize w.alloc _=W1 at q0 lB X1⊢;obtain⟨B,hB⟩:∃ B,B=w.heap.size:=⟨_,rfl⟩;rw[<- hB]at q0 lB⊢;clear hB;have Q0:=Hd q0;have HX1:=Hd X1;clear q0 X1;have k1:W1.cell? ⟨B,1,none⟩=some (.int .i64 d.rows):=Q0.out 1 _ rfl;have k2:W1.cell? ⟨B,2,none⟩=some (.int .i64 d.cols):=Q0.out 2 _ rfl;have k3:W1.cell? ⟨B,3,none⟩=some (.slice A2 d.costs.length c2):=Q0.out 3 _ rfl;have k4:W1.cell? ⟨B,4,none⟩=some (.slice A3 d.classes.length c3):=Q0.out 4 _ rfl
 go_cut [54] from 14 to 54 (λv wx=>v=.bool (Mj d)/\wx=W1)
 case first =>
  by_cases b1:d.rows<1
  ·have e:Mj d=true:=decide_eq_true (.inl b1);go_wp2_with fail
   go_meet
   case rel=>exact⟨by rw[e],rfl⟩
  by_cases b2:64<d.rows
  ·have e:Mj d=true:=decide_eq_true (.inr (.inl b2));go_wp2_with fail
   go_meet
   case rel=>exact⟨by rw[e],rfl⟩
  by_cases b3:d.cols<1
  ·have e:Mj d=true:=decide_eq_true (.inr (.inr (.inl b3)));go_wp2_with fail
   go_meet
   case rel=>exact⟨by rw[e],rfl⟩
  by_cases b4:64<d.cols
  ·have e:Mj d=true:=decide_eq_true (.inr (.inr (.inr (.inl b4))));go_wp2_with fail
   go_meet
   case rel=>exact⟨by rw[e],rfl⟩
  have hmul:0<=d.rows*d.cols/\d.rows*d.cols<=4096:=by
   have e1:d.rows=(d.rows.toNat:Int):=Om;have e2:d.cols=(d.cols.toNat:Int):=Om;have:=Nat.mul_le_mul ((Om:d.rows.toNat<=64)) ((Om:d.cols.toNat<=64));rw[e1,e2];constructor
   ·exact Int.mul_nonneg Om Om
   ·exact_mod_cast this
  have hw:IntKind.i64.wrap (d.rows*d.cols)=d.rows*d.cols:=by rw[IntKind.wrap_i64];omega
  by_cases b5:(d.costs.length:Int)≠d.rows*d.cols
  ·have e:Mj d=true:=decide_eq_true (.inr (.inr (.inr (.inr (.inl b5)))));have b5b:((d.costs.length:Int) != d.rows*d.cols)=true:=(by simpa using b5);go_wp2_with fail
   go_meet
   case rel=>exact⟨by rw[e],rfl⟩
  have b5b:((d.costs.length:Int) != d.rows*d.cols)=false:=by simpa using b5
  by_cases b6:d.classes.length<1
  ·have b6z:(d.classes.length:Int)<1:=Om;have e:Mj d=true:=decide_eq_true (.inr (.inr (.inr (.inr (.inr (.inl b6))))));go_wp2_with fail
   go_meet
   case rel=>exact⟨by rw[e],rfl⟩
  have b6z:¬ (d.classes.length:Int)<1:=Om
  by_cases b7:12<d.classes.length
  ·have b7z:(12:Int)<d.classes.length:=Om;have e:Mj d=true:=decide_eq_true (.inr (.inr (.inr (.inr (.inr (.inr b7))))));go_wp2_with fail
   go_meet
   case rel=>exact⟨by rw[e],rfl⟩
  have b7z:¬ (12:Int)<d.classes.length:=Om
  have e:Mj d=false:=decide_eq_false (by rintro (h|h|h|h|h|h|h)<;>contradiction);go_wp2_with fail
  go_meet
  case rel=>exact⟨by rw[e],rfl⟩
 case rest =>
  obtain⟨rfl,rfl⟩:=hcut;go_step;by_cases hb0:Mj d=true
  ·have e:Zm d=false:=by unfold Zm;rw[hb0];rfl
   rw[hb0];go_wp2_with fail
   exact bodyPost_ret (results_tmp rfl _ _ _) rfl ⟨by rw[e];rfl,HX1⟩
  ·have hb0:Mj d=false:=(by simpa using hb0);rw[hb0];have HB0:=Hd hb0;clear hb0;have HX2:Aside _:=HX1.out;generalize hW:wc=W1 at *;go_wp2_with fail
   go_loopg [58] d.costs.length (λg1 v wr=>∃ k:Nat,v=.int .i64 k/\k<=d.costs.length/\d.costs.length<=k+g1/\W1=wr/\Hid ((d.costs.take k).all Uf=true))
   case atStart=>exact⟨0,rfl,Om,Om,rfl,rfl⟩
   case round =>
    obtain⟨k,rfl,hk,hg,rfl,HA⟩:=hrel;by_cases hlt:k<d.costs.length
    ·have hltz:(k:Int)<d.costs.length:=Om;obtain⟨b,o,rfl,_,_,ce,r1,r2⟩:=Zcq (Z3 HD.out.2.1.2.2 HX1.out) k hlt;have C1:=En d.costs[k] W1
     cases hs:Uf d.costs[k] with
     | false =>
      rw[hs]at C1;have e:Zm d=false:=by unfold Zm;rw[HB0.out,Y5 _ _ k hlt hs];rfl
      go_wp2_with (go_at_call 56;refine C1.mono ?_;rintro e W3 ⟨rfl,rfl⟩;clear C1)
      exact bodyPost_ret (results_tmp rfl _ _ _) rfl ⟨by rw[e];rfl,HX1⟩
     | true =>
      rw[hs]at C1;have HS:=Hd hs;clear hs;go_wp2_with (go_at_call 56;refine C1.mono ?_;rintro e W3 ⟨rfl,rfl⟩;clear C1)
      go_roundg (d.costs.length-(k+1))
      case measure=>omega
      case rel=>exact⟨k+1,by go_num,Om,Om,rfl,Ys _ _ k hlt HA HS⟩
    ·have hltz:¬ (k:Int)<d.costs.length:=Om;have A1t:=Hd (Po _ _ k Om HA.out);have k0:W1.cell? ⟨B,0,none⟩=some (.slice A1 d.words.length c1):=Q0.out 0 _ rfl;go_wp2_with fail
     have l0:=HD.out.1.2.2.1
     go_loopg [69] d.words.length (λg1 v wr=>∃ k:Nat,v=.int .i64 k/\k<=d.words.length/\d.words.length<=k+g1/\Hid (Zf W1 wr)/\Hid ((d.words.take k).all (λx=>!Xr d x)=true))
     case atStart=>exact⟨0,rfl,Om,Om,Fl _,rfl⟩
     case round =>
      clear hlt hltz hk hg HA;obtain⟨k,rfl,hk,hg,HX,HA⟩:=hrel;have k1:=HX.out.cell (Q0.out 1 (.int .i64 d.rows) rfl) id;have k2:=HX.out.cell (Q0.out 2 (.int .i64 d.cols) rfl) id;by_cases hlt:k<d.words.length
      ·have hltz:(k:Int)<d.words.length:=Om;obtain⟨b,o,p,q,rfl,_,_,⟨Ap,cp,ep,_⟩,⟨Aq,cq,eq,_⟩,hsz,e0,e1,e2,e3,e4,e5⟩:=Nf (Z3 HD.out.1.2.2 (HX1.out.then HX.out)) k hlt;cases ep;cases eq;generalize hx:d.words[k]=x at e0 e1 e2 e3 e4 e5 hsz;have HXX:=Hd hx;have LK:=Hd hlt;clear hx;go_upto_region 12 with fail
       have m0:=Yb wr #[.string x.surface,.int .i64 x.left,.int .i64 x.right,.int .i64 x.weight,.slice Ap x.pos.length cp,.slice Aq x.contents.length cq] 53 0 _ rfl;have m1:=Yb wr #[.string x.surface,.int .i64 x.left,.int .i64 x.right,.int .i64 x.weight,.slice Ap x.pos.length cp,.slice Aq x.contents.length cq] 53 1 _ rfl;have m2:=Yb wr #[.string x.surface,.int .i64 x.left,.int .i64 x.right,.int .i64 x.weight,.slice Ap x.pos.length cp,.slice Aq x.contents.length cq] 53 2 _ rfl;have m3:=Yb wr #[.string x.surface,.int .i64 x.left,.int .i64 x.right,.int .i64 x.weight,.slice Ap x.pos.length cp,.slice Aq x.contents.length cq] 53 3 _ rfl;have XQ:Zf wr (wr.alloc (.cells #[.string x.surface,.int .i64 x.left,.int .i64 x.right,.int .i64 x.weight,.slice Ap x.pos.length cp,.slice Aq x.contents.length cq] 53)):=(Fl _).alloc _;generalize wr.alloc _=wq at m0 m1 m2 m3 XQ⊢;generalize wr.heap.size=bq at m0 m1 m2 m3⊢;have k1:=XQ.cell k1 id;have k2:=XQ.cell k2 id;have HTQ:=Hd (((HT.out.ext HX1.out).ext HX.out).ext XQ);have HXQ:=Hd XQ;clear XQ e0 e1 e2 e3 e4 e5
       go_cut [106] from 71 to 106 (λv wx=>v=.bool (Xr d x)/\Hid (Zf wq wx))
       case first =>
        by_cases b1:x.left<0
        ·have e:Xr d x=true:=by unfold Xr;rw[decide_eq_true (.inl b1)];rfl
         go_wp2_with fail
         go_meet
         case rel=>exact⟨by rw[e],Fl _⟩
        by_cases b2:d.cols<=x.left
        ·have e:Xr d x=true:=by unfold Xr;rw[decide_eq_true (.inr (.inl b2))];rfl
         go_wp2_with fail
         go_meet
         case rel=>exact⟨by rw[e],Fl _⟩
        by_cases b3:x.right<0
        ·have e:Xr d x=true:=by unfold Xr;rw[decide_eq_true (.inr (.inr (.inl b3)))];rfl
         go_wp2_with fail
         go_meet
         case rel=>exact⟨by rw[e],Fl _⟩
        by_cases b4:d.rows<=x.right
        ·have e:Xr d x=true:=by unfold Xr;rw[decide_eq_true (.inr (.inr (.inr b4)))];rfl
         go_wp2_with fail
         go_meet
         case rel=>exact⟨by rw[e],Fl _⟩
        have e0:Xr d x=(!Uf x.weight || !Ws x.surface):=by unfold Xr;rw[decide_eq_false (by rintro (h|h|h|h)<;>contradiction)];rfl
        cases hs:Uf x.weight with
        | false =>
         rw[hs]at e0;have C1:=En x.weight wq;rw[hs]at C1;go_wp2_with (go_at_call 56;refine C1.mono ?_;rintro e W3 ⟨rfl,rfl⟩;clear C1)
         go_meet
         case rel=>exact⟨by rw[e0];rfl,Fl _⟩
        | true =>
         rw[hs]at e0;have C1:=En x.weight wq;rw[hs]at C1;have C2:=Zfn x.surface wq hsz HTQ;have E0:=Hd e0;clear e0;generalize Ws x.surface=pp at C2 E0;cases pp
         all_goals
          go_wp2_with (first|(go_at_call 56;refine C1.mono ?_;rintro e W3 ⟨rfl,rfl⟩)|(go_at_call 57;refine C2.mono ?_;rintro e W3 ⟨rfl,hx3⟩;have HX3:=Hd hx3;clear hx3))
          go_meet;exact⟨by rw[E0.out];rfl,HX3⟩
       case rest =>
        obtain⟨rfl,HX3⟩:=hcut;go_step;have HXN:Hid (Zf W1 wc):=(HX.out.then HXQ.out).then HX3.out
        cases hb:Xr d x with
        | true =>
         have e:Zm d=false:=by
          unfold Zm;rw[HB0.out,A1t.out,Y5 (λx=>!Xr d x) _ k LK.out (by rw[HXX.out,hb];rfl)];rfl
         go_wp2_with fail
         exact bodyPost_ret (results_tmp rfl _ _ _) rfl ⟨by rw[e];rfl,HX1.out.then HXN.out⟩
        | false =>
         have HBX:=Hd hb;clear hb;go_wp2_with fail
         go_roundg (d.words.length-(k+1))
         case measure=>omega
         case rel=>exact⟨k+1,by go_num,Om,Om,HXN,Ys _ _ k LK.out HA (by rw[HXX.out,HBX.out];rfl)⟩
      ·have hltz:¬ (k:Int)<d.words.length:=Om;have A2t:=Hd (Po _ _ k Om HA.out);have k4:=HX.out.cell (Q0.out 4 (.slice A3 d.classes.length c3) rfl) id;have k6:=HX.out.cell (Q0.out 6 (.slice A5 d.unknown.length c5) rfl) id
       have l3b:d.classes.length<=12:=by
        have:=HB0.out;unfold Mj at this;have:=of_decide_eq_false this;omega
       obtain⟨ib,hib⟩:∃ i,Tryz.prog.info? 4=some i:=by
        cases h:Tryz.prog.info? 4 with
        | none =>
         have:(Tryz.prog.info? 4).isSome=true:=Kr;rw[h]at this;cases this
        | some i=>exact⟨i,rfl⟩
       have hib2:(Tryz.prog.info? 4).map (λi=>(i.zero,i.size,i.bytes))=some (some (.bool false),1,1):=Kr;rw[hib]at hib2;simp only[Option.map_some,Option.some.injEq,Prod.mk.injEq]at hib2;obtain⟨ib1,ib2,ib3⟩:=hib2
       have hmk:∀ W:World,(Instr.makeSlice 119 (.int .i64 (d.classes.length:Int)) (.int .i64 (d.classes.length:Int))).run Tryz.prog W=.ok (.slice (some ⟨W.heap.size,0,none⟩) d.classes.length d.classes.length) (W.alloc (.cells (madeCells #[.bool false] d.classes.length) 4)):=λW=>by
        have:=run_make (P:=Tryz.prog) W 119 4 ib _ Tryz.underlying119 hib ib1 .i64 .i64 d.classes.length d.classes.length Om Om (by rw[ib3];omega) Om;rw[ib2,Nat.mul_one]at this;exact this
       clear hib ib1 ib2 ib3;go_upto_region 16 with fail
       have hrow:=World.rowIs_made wr (.bool false) d.classes.length 4;have XT:Zf W1 (wr.alloc (.cells (madeCells #[.bool false] d.classes.length) 4)):=HX.out.alloc _;have htb:W1.heap.size<=wr.heap.size:=HX.out.size;have k6':(wr.alloc (.cells (madeCells #[.bool false] d.classes.length) 4)).cell? ⟨B,6,none⟩=some (.slice A5 d.unknown.length c5):=XT.cell (Q0.out 6 _ rfl) id;obtain⟨tb,htbe⟩:∃ tb,tb=wr.heap.size:=⟨_,rfl⟩;rw[<- htbe]at hrow htb⊢;have RW:=Hd hrow;have XT:=Hd XT;clear hrow htbe hmk k6 k4 HX;generalize wr.alloc _=wt at RW XT k6'⊢;go_wp2_with fail
       go_loopg [115] d.unknown.length (λg1 v wr=>∃ (k:Nat) (f:Nat->Bool),v=.int .i64 k/\k<=d.unknown.length/\d.unknown.length<=k+g1/\Hid (Zf W1 wr)/\Hid ((d.unknown.take k).all (λx=>!Xq d x)=true)/\Hid (wr.rowIs tb 4 d.classes.length (λj=>.bool (f j)))/\Hid (∀ j:Nat,f j=(d.unknown.take k).any λu=>u.cls==(j:Int)))
       case atStart=>exact⟨0,λ_=>false,rfl,Om,Om,XT,rfl,RW,λj=>rfl⟩
       case round =>
        clear hlt hltz hk hg HA;obtain⟨k,f,rfl,hk,hg,HX,HA,RW,HF⟩:=hrel;have k1:=HX.out.cell (Q0.out 1 (.int .i64 d.rows) rfl) id;have k2:=HX.out.cell (Q0.out 2 (.int .i64 d.cols) rfl) id;have k4:=HX.out.cell (Q0.out 4 (.slice A3 d.classes.length c3) rfl) id;by_cases hlt:k<d.unknown.length
        ·have hltz:(k:Int)<d.unknown.length:=Om;obtain⟨b,o,q,rfl,_,_,⟨Aq,cq,eq,_⟩,e0,e1,e2,e3,e4⟩:=Zgx (Z3 HD.out.2.2.2.1.2.2 (HX1.out.then HX.out)) k hlt;cases eq;generalize hx:d.unknown[k]=x at e0 e1 e2 e3 e4;have HXX:=Hd hx;have LK:=Hd hlt;clear hx;go_upto_region 19 with fail
         have m0:=Yb wr #[.int .i64 x.cls,.int .i64 x.left,.int .i64 x.right,.int .i64 x.weight,.slice Aq x.contents.length cq] 36 0 _ rfl;have m1:=Yb wr #[.int .i64 x.cls,.int .i64 x.left,.int .i64 x.right,.int .i64 x.weight,.slice Aq x.contents.length cq] 36 1 _ rfl;have m2:=Yb wr #[.int .i64 x.cls,.int .i64 x.left,.int .i64 x.right,.int .i64 x.weight,.slice Aq x.contents.length cq] 36 2 _ rfl;have m3:=Yb wr #[.int .i64 x.cls,.int .i64 x.left,.int .i64 x.right,.int .i64 x.weight,.slice Aq x.contents.length cq] 36 3 _ rfl;have XQ:Zf wr (wr.alloc (.cells #[.int .i64 x.cls,.int .i64 x.left,.int .i64 x.right,.int .i64 x.weight,.slice Aq x.contents.length cq] 36)):=(Fl _).alloc _;have RQ:=RW.out.alloc (.cells #[.int .i64 x.cls,.int .i64 x.left,.int .i64 x.right,.int .i64 x.weight,.slice Aq x.contents.length cq] 36);generalize wr.alloc _=wq at m0 m1 m2 m3 XQ RQ⊢;generalize wr.heap.size=bq at m0 m1 m2 m3⊢;have k1:=XQ.cell k1 id;have k2:=XQ.cell k2 id;have k4:=XQ.cell k4 id;have HXQ:=Hd XQ;have RQ:=Hd RQ;clear XQ e0 e1 e2 e3 e4
         go_cut [159] from 119 to 159 (λv wx=>v=.bool (Xq d x)/\wq=wx)
         case first =>
          by_cases b1:x.cls<0
          ·have e:Xq d x=true:=by unfold Xq;rw[decide_eq_true (.inl b1)];rfl
           go_wp2_with fail
           go_meet
           case rel=>exact⟨by rw[e],rfl⟩
          by_cases b2:(d.classes.length:Int)<=x.cls
          ·have e:Xq d x=true:=by unfold Xq;rw[decide_eq_true (.inr (.inl b2))];rfl
           go_wp2_with fail
           go_meet
           case rel=>exact⟨by rw[e],rfl⟩
          by_cases b3:x.left<0
          ·have e:Xq d x=true:=by unfold Xq;rw[decide_eq_true (.inr (.inr (.inl b3)))];rfl
           go_wp2_with fail
           go_meet
           case rel=>exact⟨by rw[e],rfl⟩
          by_cases b4:d.cols<=x.left
          ·have e:Xq d x=true:=by unfold Xq;rw[decide_eq_true (.inr (.inr (.inr (.inl b4))))];rfl
           go_wp2_with fail
           go_meet
           case rel=>exact⟨by rw[e],rfl⟩
          by_cases b5:x.right<0
          ·have e:Xq d x=true:=by unfold Xq;rw[decide_eq_true (.inr (.inr (.inr (.inr (.inl b5)))))];rfl
           go_wp2_with fail
           go_meet
           case rel=>exact⟨by rw[e],rfl⟩
          by_cases b6:d.rows<=x.right
          ·have e:Xq d x=true:=by unfold Xq;rw[decide_eq_true (.inr (.inr (.inr (.inr (.inr b6)))))];rfl
           go_wp2_with fail
           go_meet
           case rel=>exact⟨by rw[e],rfl⟩
          have e0:Xq d x = !Uf x.weight:=by unfold Xq;rw[decide_eq_false (by rintro (h|h|h|h|h|h)<;>contradiction)];rfl
          have C1:=En x.weight wq;have E0:=Hd e0;clear e0;generalize Uf x.weight=pp at C1 E0;cases pp
          all_goals
           go_wp2_with (go_at_call 56;refine C1.mono ?_;rintro e W3 ⟨rfl,rfl⟩;clear C1)
           go_meet;exact⟨by rw[E0.out];rfl,rfl⟩
         case rest =>
          obtain⟨rfl,rfl⟩:=hcut;go_step;have HXN:Hid (Zf W1 wq):=HX.out.then HXQ.out
          cases hb:Xq d x with
          | true =>
           have e:Zm d=false:=by
            unfold Zm;rw[HB0.out,A1t.out,A2t.out,Y5 (λx=>!Xq d x) _ k LK.out (by rw[HXX.out,hb];rfl)];rfl
           go_wp2_with fail
           exact bodyPost_ret (results_tmp rfl _ _ _) rfl ⟨by rw[e];rfl,HX1.out.then HXN.out⟩
          | false =>
           have hcl:0<=x.cls/\x.cls<d.classes.length:=by
            unfold Xq at hb;have:=of_decide_eq_false (Bool.or_eq_false_iff.1 hb).1;omega
           obtain⟨cc,hcc⟩:∃ cc:Nat,x.cls=cc:=⟨x.cls.toNat,Om⟩;rw[hcc]at m0;have hccl:cc<d.classes.length:=Om;have hcclz:(cc:Int)<d.classes.length:=Om;have t0:=RQ.out.cell hccl;have t1:=RQ.out.frozen cc;have HBX:=Hd (Ai1 hb hcc);clear hb hcc hcl;go_wp2_with fail
           go_roundg (d.unknown.length-(k+1))
           case measure=>omega
           case rel=>exact⟨k+1,λj=>if j=cc then true else f j,by go_num,Om,Om,Fr.setCell HXN.out _ _ (λq=>by have:tb<W1.heap.size:=q;omega),Ys _ _ k LK.out HA (by rw[HXX.out,HBX.out.1];rfl),(RQ.out.set cc (.bool true)).congr (λj _=>by by_cases e:j=cc<;>simp[e]),Zbz LK.out HF.out (by rw[HXX.out];exact HBX.out.2)⟩
        ·have hltz:¬ (k:Int)<d.unknown.length:=Om;have A3t:=Hd (Po _ _ k Om HA.out);have HF:Hid (∀ j:Nat,f j=d.unknown.any λu=>u.cls==(j:Int)):=λj=>by rw[HF.out j,List.take_of_length_le Om]
         have k5:=HX.out.cell (Q0.out 5 (.slice A4 d.chars.length c4) rfl) id;go_wp2_with fail
         go_loopg [168] d.chars.length (λg1 v wr=>∃ k:Nat,v=.int .i64 k/\k<=d.chars.length/\d.chars.length<=k+g1/\Hid (Zf W1 wr)/\Hid ((d.chars.take k).all (λx=>!Xz d x)=true)/\Hid (wr.rowIs tb 4 d.classes.length (λj=>.bool (f j))))
         case atStart=>exact⟨0,rfl,Om,Om,HX,rfl,RW⟩
         case round =>
          clear hlt hltz hk hg HA HX RW;obtain⟨k,rfl,hk,hg,HX,HA,RW⟩:=hrel;have k4:=HX.out.cell (Q0.out 4 (.slice A3 d.classes.length c3) rfl) id;by_cases hlt:k<d.chars.length
          ·have hltz:(k:Int)<d.chars.length:=Om;obtain⟨b,o,rfl,_,_,e0,e1,e2⟩:=Zbf (Z3 HD.out.2.2.1.2.2 (HX1.out.then HX.out)) k hlt;generalize hx:d.chars[k]=x at e0 e1 e2;have HXX:=Hd hx;have LK:=Hd hlt;clear hx;go_upto_region 26 with fail
           have m0:=Yb wr #[.int .i64 x.lo,.int .i64 x.hi,.int .i64 x.cls] 121 0 _ rfl;have m1:=Yb wr #[.int .i64 x.lo,.int .i64 x.hi,.int .i64 x.cls] 121 1 _ rfl;have m2:=Yb wr #[.int .i64 x.lo,.int .i64 x.hi,.int .i64 x.cls] 121 2 _ rfl;have XQ:Zf wr (wr.alloc (.cells #[.int .i64 x.lo,.int .i64 x.hi,.int .i64 x.cls] 121)):=(Fl _).alloc _;have RQ:=RW.out.alloc (.cells #[.int .i64 x.lo,.int .i64 x.hi,.int .i64 x.cls] 121);generalize wr.alloc _=wq at m0 m1 m2 XQ RQ⊢;generalize wr.heap.size=bq at m0 m1 m2⊢;have k4:=XQ.cell k4 id;have HXQ:=Hd XQ;have RQ:=Hd RQ;clear XQ e0 e1 e2
           go_cut [202] from 172 to 202 (λv wx=>v=.bool (Xz d x)/\wq=wx)
           case first =>
            by_cases b1:x.lo<0
            ·have e:Xz d x=true:=decide_eq_true (.inl b1);go_wp2_with fail
             go_meet
             case rel=>exact⟨by rw[e],rfl⟩
            by_cases b2:65535<x.lo
            ·have e:Xz d x=true:=decide_eq_true (.inr (.inl b2));go_wp2_with fail
             go_meet
             case rel=>exact⟨by rw[e],rfl⟩
            by_cases b3:x.hi<0
            ·have e:Xz d x=true:=decide_eq_true (.inr (.inr (.inl b3)));go_wp2_with fail
             go_meet
             case rel=>exact⟨by rw[e],rfl⟩
            by_cases b4:65535<x.hi
            ·have e:Xz d x=true:=decide_eq_true (.inr (.inr (.inr (.inl b4))));go_wp2_with fail
             go_meet
             case rel=>exact⟨by rw[e],rfl⟩
            by_cases b5:x.cls<0
            ·have e:Xz d x=true:=decide_eq_true (.inr (.inr (.inr (.inr (.inl b5)))));go_wp2_with fail
             go_meet
             case rel=>exact⟨by rw[e],rfl⟩
            by_cases b6:(d.classes.length:Int)<=x.cls
            ·have e:Xz d x=true:=decide_eq_true (.inr (.inr (.inr (.inr (.inr b6)))));go_wp2_with fail
             go_meet
             case rel=>exact⟨by rw[e],rfl⟩
            have e:Xz d x=false:=decide_eq_false (by rintro (h|h|h|h|h|h)<;>contradiction);go_wp2_with fail
            go_meet
            case rel=>exact⟨by rw[e],rfl⟩
           case rest =>
            obtain⟨rfl,rfl⟩:=hcut;go_step;have HXN:Hid (Zf W1 wq):=HX.out.then HXQ.out
            cases hb:Xz d x with
            | true =>
             have e:Zm d=false:=by
              unfold Zm;rw[HB0.out,A1t.out,A2t.out,A3t.out,Y5 (λx=>!Xz d x) _ k LK.out (by rw[HXX.out,hb];rfl)];rfl
             go_wp2_with fail
             exact bodyPost_ret (results_tmp rfl _ _ _) rfl ⟨by rw[e];rfl,HX1.out.then HXN.out⟩
            | false =>
             have HBX:=Hd hb;clear hb;go_wp2_with fail
             go_roundg (d.chars.length-(k+1))
             case measure=>omega
             case rel=>exact⟨k+1,by go_num,Om,Om,HXN,Ys _ _ k LK.out HA (by rw[HXX.out,HBX.out];rfl),RQ⟩
          ·have hltz:¬ (k:Int)<d.chars.length:=Om;have A4t:=Hd (Po _ _ k Om HA.out);have k7:=HX.out.cell (Q0.out 7 (.slice A6 d.meta0.length c6) rfl) id;have k8:=HX.out.cell (Q0.out 8 (.slice A7 d.unkMeta.length c7) rfl) id;go_upto_region 29 with fail
           obtain⟨im,him,zm,hz1,hz2,hz3,hz4⟩:=Qv;have hM:=HD.out.2.2.2.2.1;have hU:=HD.out.2.2.2.2.2
           have C1:=Zc6 A6 d.meta0.length c6 (Ww d.meta0) wr.drew (Oz _) (λe=>by
            have:=hM.2.1 e
            exact⟨Om,this⟩) (λa ha=>Gi (Z3 hM.2.2 ((HX1.out.then HX.out).drew)) a ha) (J6 _) hmt.1
           go_cut [209,210,211] from 204 to 211 (λv l z wx=>∃ A c,v=.slice A (d.meta0.length+d.unkMeta.length) c/\l=.int .i64 ((d.meta0.length:Int)+d.unkMeta.length)/\z=.int .i64 0/\Hid (Zf W1 wx)/\Hid (wx.rowIs tb 4 d.classes.length (λj=>.bool (f j)))/\Hid (wx.ownsRow 0 76 2 v (d.meta0.length+d.unkMeta.length) (Ww (d.meta0++d.unkMeta))))
           case first =>
            rcases A7 with _|ad
            ·have hu0:d.unkMeta=[]:=List.eq_nil_of_length_eq_zero (by have:=hU.2.1 rfl;have:=hU.1;omega);have hc7:c7=0:=hU.2.1 rfl;subst hc7;have hl0:d.unkMeta.length=0:=by rw[hu0];rfl
             rw[hl0]at k8;have HL0:=Hd (Ai1 hl0 hu0);clear hM hU hl0 hu0
             go_region_law (first|(refine Mz rfl _ _ 27 rfl 0 76 im 2 Tryz.underlying27 him v d.meta0.length _ rfl HV.out.1 rfl ?_;obtain⟨A',cp',hv'⟩:=Zl HV.out.1;subst hv')|(go_simp;go_at_call 58;refine C1.mono ?_;rintro e wv ⟨v,rfl,hv,hxv,_⟩;have k8:=hxv.cell k8 id;have HV:=Hd (Ai1 (Ns hv) (λj=>Y1 (g:=j) hv));have HXV:=Hd hxv;clear hv hxv))
             all_goals (go_wp2;go_meet)
             all_goals
              exact⟨A',cp',by rw[HL0.1];rfl,by rw[HL0.1];first|rfl|simp,rfl,(HX.out.drew).then HXV.out,Xs RW.out (S:=λ_=>False) (((Fl wr).drew).then HXV.out) id,by rw[HL0.1,HL0.2,List.append_nil];exact HV.out.1⟩
            ·have HU:=Hd (Gi (Z3 hU.2.2 ((HX1.out.then HX.out).drew)) ad rfl);clear hM hU
             go_region_law (first|(refine Z9 rfl _ _ 27 rfl 0 76 im zm 2 24 Tryz.underlying27 him hz1 hz2 hz3 hz4 (by decide) v d.meta0.length _ rfl HV.out.1 ad d.unkMeta.length c7 (Ww d.unkMeta) rfl (Oz _) (λj u hj=>HXV.out.cell (HU.out j u hj) id) (J6 _) (by unfold maxLen;omega) Om (Nat.zero_le _) ?_;intro v' w3 hown' hgrow hnil' hat;obtain⟨A',cp',hv'⟩:=Zl hown';subst hv')|(go_simp;go_at_call 58;refine C1.mono ?_;rintro e wv ⟨v,rfl,hv,hxv,_⟩;have k8:=hxv.cell k8 id;have HV:=Hd (Ai1 (Ns hv) (λj=>Y1 (g:=j) hv));have HXV:=Hd hxv;clear hv hxv))
             all_goals (go_wp2;go_meet)
             all_goals
              have hfresh:∀ k,v.ownBlock=some k->k<wr.heap.size->False:=λk e hk=>by have:wr.heap.size<=k:=HV.out.2 k e;omega
              have hsz:=HX.out.size;exact⟨A',cp',rfl,rfl,rfl,((HX.out.drew).then HXV.out).grown hgrow (λk e hk=>hfresh k e Om),Xs RW.out (S:=λ_=>False) ((((Fl wr).drew).then HXV.out).grown hgrow hfresh) id,by rw[Zcj];exact hown'⟩
           case rest =>
            obtain⟨A,c,rfl,rfl,rfl,HX,RW,HO⟩:=hcut;go_step;have hms:(d.meta0++d.unkMeta).length=d.meta0.length+d.unkMeta.length:=List.length_append;obtain⟨ms,hmse⟩:∃ ms,ms=d.meta0++d.unkMeta:=⟨_,rfl⟩;rw[<- hmse]at hms HO;obtain⟨N,hN⟩:∃ N,N=d.meta0.length+d.unkMeta.length:=⟨_,rfl⟩;have hNz:(d.meta0.length:Int)+d.unkMeta.length=N:=Om;rw[<- hN]at HO hms;rw[<- hN,hNz];have hNl:N<=4294967294:=Om;have HMS:=Hd hmse;clear hN hNz hmse C1;go_wp2_with fail
            go_loopg [211] N (λg1 v wr=>∃ k:Nat,v=.int .i64 k/\k<=N/\N<=k+g1/\Hid (Zf W1 wr)/\Hid (Zf wc wr)/\Hid ((ms.take k).all (λx=>!Ta x)=true))
            case atStart=>exact⟨0,rfl,Om,Om,HX,Fl _,rfl⟩
            case round =>
             clear hlt hltz hk hg HA HX;obtain⟨k,rfl,hk,hg,HX,HXC,HA⟩:=hrel;by_cases hlt:k<N
             ·have hltz:(k:Int)<N:=Om;have hkm:k<ms.length:=Om
              obtain⟨g,rfl,hce⟩:∃ g,A=some ⟨g,0,none⟩/\∀ j u,(Ww ms)[j]?=some u->wc.cell? ⟨g,j,none⟩=some u:=by
               rcases HO.out.2 with ⟨e,q⟩|⟨g,cap,cur,e,_,_,_⟩
               ·exfalso;simp only[Value.slice.injEq]at e;omega
               ·simp only[Value.slice.injEq,true_and]at e;obtain⟨rfl,rfl⟩:=e;refine⟨g,rfl,λj u hu=>?_⟩;have:=HO.out.cells (g:=g) rfl j u hu;rw[Addr.add_lit,Nat.zero_add]at this;exact this
              obtain⟨g0,g1⟩:=O3 ms k hkm;have e0:=HXC.out.cell (hce _ _ g0) id;have e1:=HXC.out.cell (hce _ _ g1) id;generalize hx:ms[k]=x at e0 e1;have HXX:=Hd hx;have LK:=Hd hkm;clear hx hce g0 g1;go_upto_region 32 with fail
              have m1:=Yb wr #[.string x.name,.int .i64 x.place] 76 1 _ rfl;have XQ:Zf wr (wr.alloc (.cells #[.string x.name,.int .i64 x.place] 76)):=(Fl _).alloc _;generalize wr.alloc _=wq at m1 XQ⊢;generalize wr.heap.size=bq at m1⊢;have HXQ:=Hd XQ;clear XQ e0 e1
              go_cut [222] from 215 to 222 (λv wx=>v=.bool (Ta x)/\wq=wx)
              case first =>
               by_cases b1:x.place<0
               ·have e:Ta x=true:=decide_eq_true (.inl b1);go_wp2_with fail
                go_meet
                case rel=>exact⟨by rw[e],rfl⟩
               by_cases b2:100<x.place
               ·have e:Ta x=true:=decide_eq_true (.inr b2);go_wp2_with fail
                go_meet
                case rel=>exact⟨by rw[e],rfl⟩
               have e:Ta x=false:=decide_eq_false (by rintro (h|h)<;>contradiction);go_wp2_with fail
               go_meet
               case rel=>exact⟨by rw[e],rfl⟩
              case rest =>
               obtain⟨rfl,rfl⟩:=hcut;go_step;have HXN:Hid (Zf W1 wq):=HX.out.then HXQ.out
               cases hb:Ta x with
               | true =>
                have e:Zm d=false:=by
                 unfold Zm;rw[HB0.out,A1t.out,A2t.out,A3t.out,A4t.out,<- HMS.out,Y5 (λx=>!Ta x) _ k LK.out (by rw[HXX.out,hb];rfl)];rfl
                go_wp2_with fail
                exact bodyPost_ret (results_tmp rfl _ _ _) rfl ⟨by rw[e];rfl,HX1.out.then HXN.out⟩
               | false =>
                have HBX:=Hd hb;clear hb;go_wp2_with fail
                go_roundg (N-(k+1))
                case measure=>omega
                case rel=>exact⟨k+1,by go_num,Om,Om,HXN,HXC.out.then HXQ.out,Ys _ _ k LK.out HA (by rw[HXX.out,HBX.out];rfl)⟩
             ·have hltz:¬ (k:Int)<N:=Om;have A5t:=Hd (Po _ _ k Om HA.out);have C2:=Im tb d.classes.length d.classes.length f wr (λj hj=>(Xs RW.out HXC.out id).cell hj) Om;go_wp2_with (go_at_call 59;refine C2.mono ?_;rintro e W3 ⟨⟨b,rfl,hb⟩,rfl⟩;clear C2)
              have e:Zm d = !b:=by
               unfold Zm;rw[HB0.out,A1t.out,A2t.out,A3t.out,A4t.out,<- HMS.out,A5t.out];simp only[Bool.not_false,Bool.true_and]
               cases b with
               | true =>
                obtain⟨j,hj,hf⟩:=hb.1 rfl;rw[Y5 _ _ j (by simpa using hj) (by simp only[List.getElem_range];rw[<- HF.out j];exact hf)];rfl
               | false =>
                have:(List.range d.classes.length).all (λc=>d.unknown.any λu=>u.cls==(c:Int))=true:=by
                 rw[List.all_eq_true];intro j hj;rw[<- HF.out j]
                 cases hf:f j with
                 | true=>rfl
                 | false=>exact absurd (hb.2 ⟨j,List.mem_range.1 hj,hf⟩) (by simp)
                rw[this];rfl
              first|go_ret|go_ret2
              exact⟨by rw[e];rfl,HX1.out.then HX.out⟩
end Go.Proofs.YtlfoalomaofejaaGreatDoor
