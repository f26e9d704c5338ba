/- laws.smallDict. -/
import Derived.Test.YtoliamijgmifkaaGreatDoorF36
import Derived.Test.YtoliamijgmifkaaGreatDoorF29
set_option linter.all false
set_option maxRecDepth 100000
set_option maxHeartbeats 4000000
namespace Go.Proofs.YtoliamijgmifkaaGreatDoor
open Go.RowKit DT SS TR LT
def Pn(x:Int):Bool:=decide (-20000<=x)&&decide (x<=20000)
def Vd(x:GWord):Bool:=decide (x.pos.length<=20)&&(decide (x.contents.length<=20)&&(Pc [x.pos,x.contents]&&Pn x.weight))
def Td(x:GUnk):Bool:=decide (x.contents.length<=20)&&(Pc [x.contents]&&Pn x.weight)
def Wk(d:Zf):Bool:=d.words.all Vd&&(d.unknown.all Td&&(d.costs.all Pn&&(decide (d.words.length<=60)&&(decide (d.unknown.length<=30)&&(decide (d.meta0.length<=20)&&(decide (d.unkMeta.length<=20)&&(decide (d.chars.length<=30)&&(decide (d.costs.length<=4096)&&(decide (d.user.length<=30)&&Pc [Ua d])))))))))
theorem Bl{x:Int}(h1:-20000<=x)(h2:x<=20000):Pn x=true:=by simp[Pn,h1,h2]
theorem Ns{x:Int}(h:¬ (-20000<=x/\x<=20000)):Pn x=false:=by
 rw[Bool.eq_false_iff];intro e;simp[Pn]at e;exact h e
theorem Fw{x:GWord}(h:¬ (x.pos.length<=20/\x.contents.length<=20)):Vd x=false:=by
 rw[Bool.eq_false_iff];intro e;simp[Vd]at e;exact h ⟨e.1,e.2.1⟩
theorem Zho{x:GUnk}(h:¬ x.contents.length<=20):Td x=false:=by
 rw[Bool.eq_false_iff];intro e;simp[Td]at e;exact h e.1
theorem Te(xs:List ByteArray)(h:∀ s∈xs,s.size<=2147483647):total xs<=xs.length*2147483648:=by
 induction xs with
 | nil=>exact Nat.le_refl _
 | cons a l ih =>
  have h1:=h a (by simp);have h2:=ih (fun s hs=>h s (by simp[hs]));unfold total at h2⊢;rw[List.map_cons,List.sum_cons,List.length_cons,Nat.add_mul];omega
theorem Ml{xs:List ByteArray}(h:Wp xs=true):∀ s∈xs,s.size<=2147483647:=by
 unfold Wp at h;rw[Bool.and_eq_true,List.all_eq_true]at h;exact fun s hs=>by simpa [Yi] using h.2 s hs
theorem Rx{x:GWord}(h:Y5 x=true):(∀ s∈x.pos,s.size<=2147483647)/\(∀ s∈x.contents,s.size<=2147483647)/\x.surface.size<=2147483647:=by
 unfold Y5 at h;rw[Bool.and_eq_true,Bool.and_eq_true]at h;exact⟨Ml h.2.1,Ml h.2.2,by simpa [Yi] using h.1⟩
theorem Ziy(W:World)(O:Nat->Prop)(A1 A2:Option Addr)(c1 c2:Nat)(x y:List ByteArray)(h1:Ty.str.At W O A1 x)(h2:Ty.str.At W O A2 y)(hs:total x+total y<=4611686018427387904) :
  Calls Tryz.prog 76 #[.slice (some ⟨W.heap.size,0,none⟩) 2 2] (W.alloc (.cells #[.slice A1 x.length c1,.slice A2 y.length c2] 43)) fun e w'=>e = .returned (.bool (Pc [x,y]))/\W.alloc (.cells #[.slice A1 x.length c1,.slice A2 y.length c2] 43)=w':=by
 have X:=(Fr.refl (fun _=>False) W).alloc (.cells #[.slice A1 x.length c1,.slice A2 y.length c2] 43);have B:=alloc_at W (.cells #[.slice A1 x.length c1,.slice A2 y.length c2] 43);have hz:=Za W (.cells #[.slice A1 x.length c1,.slice A2 y.length c2] 43);refine Zb1 _ O _ 2 [x,y] (by simp) (by simpa using hs) ?_;intro k hk
 match k,hk with
 | 0,_=>exact⟨_,0,A1,c1,rfl,by rw[hz];omega,cellAt B 0 _ rfl,Yb h1 X⟩
 | 1,_=>exact⟨_,0,A2,c2,rfl,by rw[hz];omega,cellAt B 1 _ rfl,Yb h2 X⟩
theorem Zb0(W:World)(O:Nat->Prop)(A1:Option Addr)(c1:Nat)(x:List ByteArray)(h1:Ty.str.At W O A1 x)(hs:total x<=4611686018427387904) :
  Calls Tryz.prog 76 #[.slice (some ⟨W.heap.size,0,none⟩) 1 1] (W.alloc (.cells #[.slice A1 x.length c1] 43)) fun e w'=>e = .returned (.bool (Pc [x]))/\W.alloc (.cells #[.slice A1 x.length c1] 43)=w':=by
 have X:=(Fr.refl (fun _=>False) W).alloc (.cells #[.slice A1 x.length c1] 43);have B:=alloc_at W (.cells #[.slice A1 x.length c1] 43);have hz:=Za W (.cells #[.slice A1 x.length c1] 43);refine Zb1 _ O _ 1 [x] (by simp) (by simpa using hs) ?_;intro k hk
 match k,hk with
 | 0,_=>exact⟨_,0,A1,c1,rfl,by rw[hz];omega,cellAt B 0 _ rfl,Yb h1 X⟩
theorem Zgm{d:Zf}(h:Yp d=true):∀ s∈Ua d,s.size<=2147483647:=by
 unfold Yp at h;simp only[Bool.and_eq_true]at h;intro s hs;unfold Ua at hs;rcases List.mem_append.1 hs with hs|hs
 ·obtain⟨x,hx,rfl⟩:=List.mem_map.1 hs;exact (Rx (List.all_eq_true.1 h.1.2 x hx)).2.2
 ·obtain⟨x,hx,rfl⟩:=List.mem_map.1 hs;have:=List.all_eq_true.1 h.2.2.2.2.2.2.2.2 x hx;unfold Wc at this;rw[Bool.and_eq_true]at this;simpa [Yi] using this.1
theorem Zfp{w:World}{B T:Nat}{A:Option Addr}{c:Nat}{xs:List ByteArray}(h:w.ownsRow B T 1 (.slice A xs.length c) xs.length (xs.map Value.string))(hl:xs.length<=1000)(hs:∀ s∈xs,s.size<=2147483647):Ty.str.At w (fun _=>True) A xs:=by
 refine⟨by omega,?_⟩;by_cases h0:xs=[]
 ·exact Or.inl h0
 ·have hp:0<xs.length:=List.length_pos_iff.2 h0;obtain⟨g,c',e,ec,_⟩:=Vn h 0 (by simpa using hp);simp only[Value.slice.injEq]at e;obtain⟨rfl,_,rfl⟩:=e;refine Or.inr ⟨g,0,rfl,trivial,?_,?_⟩
  ·rw[List.getElem?_map,List.getElem?_eq_getElem hp]at ec;exact lt_of_cell ec
  ·intro k hk;obtain⟨g',c',e,ek,_⟩:=Vn h k (by simpa using hk);simp only[Value.slice.injEq]at e;obtain⟨e,_,_⟩:=e;cases e;refine⟨[.string xs[k]],⟨rfl,Nat.le_trans (hs _ (List.getElem_mem hk)) (by decide)⟩,?_⟩;intro j hj;have:j=0:=by simpa using hj
   subst this;rw[List.getElem?_map,List.getElem?_eq_getElem hk]at ek;have e1:0+k*Ty.str.sz+0=k:=by show 0+k*1+0=k;omega
   rw[e1];exact ek
theorem Jo(w:World)(O:Nat->Prop)(d:Zf)(cs:List Value)(h:tDict.R w O d cs)(hf:Yp d=true):Calls Tryz.prog 33 #[.agg cs.toArray] w fun e w'=>e = .returned (.bool (Wk d))/\Ext w w':=by
 have CS:Hid (∀ W,Ext w W->d.words.length<=1000->d.user.length<=1000->Calls Tryz.prog 77 #[.agg cs.toArray] W fun e w'=>∃ v,e = .returned v/\w'.ownsRow (W.heap.size+1) 9 1 v (Ua d).length ((Ua d).map Value.string)/\Ext W w'):=fun W f a b=>Hv W O d cs (tDict.ext h f) a b
 obtain⟨A1,c1,A2,c2,A3,c3,A4,c4,A5,c5,A6,c6,A7,c7,A8,c8,rfl,h1,h2,h3,h4,h5,h6,h7,h8,_⟩:=Yh h;have HW:=Lib.hid h1.2.2;have HC:=Lib.hid h2.2.2;have HU:=Lib.hid h5.2.2
 have hlen:d.words.length<=2147483647/\d.costs.length<=2147483647/\d.unknown.length<=2147483647:=by
  unfold Yp at hf;simp only[Bool.and_eq_true]at hf;exact⟨by simpa [Yi] using hf.1.1,by simpa [Yi] using hf.2.1,by simpa [Yi] using hf.2.2.2.2.1.1⟩
 obtain⟨hlw,hlc,hlu⟩:=hlen
 have HF:Hid (∀ x∈d.words,Y5 x=true):=by
  unfold Yp at hf;simp only[Bool.and_eq_true]at hf;exact fun x hx=>List.all_eq_true.1 hf.1.2 x hx
 have HG:Hid (∀ x∈d.unknown,∀ s∈x.contents,s.size<=2147483647):=by
  unfold Yp at hf;simp only[Bool.and_eq_true]at hf;exact fun x hx=>Ml (List.all_eq_true.1 hf.2.2.2.2.1.2 x hx)
 have HS:=Lib.hid (Zgm hf);have B0:=alloc_at w (.cells #[.slice A1 d.words.length c1,.int .i64 d.rows,.int .i64 d.cols,.slice A2 d.costs.length c2,.slice A3 d.classes.length c3,.slice A4 d.chars.length c4,.slice A5 d.unknown.length c5,.slice A6 d.meta0.length c6,.slice A7 d.unkMeta.length c7,.bool d.hasUser,.slice A8 d.user.length c8] 30);have X0:=(Fr.refl (fun _=>False) w).alloc (.cells #[.slice A1 d.words.length c1,.int .i64 d.rows,.int .i64 d.cols,.slice A2 d.costs.length c2,.slice A3 d.classes.length c3,.slice A4 d.chars.length c4,.slice A5 d.unknown.length c5,.slice A6 d.meta0.length c6,.slice A7 d.unkMeta.length c7,.bool d.hasUser,.slice A8 d.user.length c8] 30);have k0:=cellAt B0 0 (.slice A1 d.words.length c1) rfl;have HX:=Lib.hid (And.intro X0 B0);clear h h1 h2 h3 h4 h5 h6 h7 h8 X0 B0 hf;go_enter Tryz.func33,Tryz.ntmps33
 go_wp2_with fail
 generalize w.alloc _=w0 at *
 go_loopg [12] d.words.length (fun g1 v12 wr=>∃ (i:Nat),v12 = .int .i64 (i:Int)/\i<=d.words.length/\d.words.length<=i+g1/\Hid (Ext w0 wr/\(d.words.take i).all Vd=true))
 case atStart=>exact⟨0,rfl,by omega,by omega,Fr.refl _ _,rfl⟩
 case round =>
  obtain⟨i,rfl,hi,hg,HR⟩:=hrel;by_cases hlt:i<d.words.length
  ·have hlz:(i:Int)<(d.words.length:Int):=by omega
   have hz0:(0:Int)<=(i:Int):=by omega
   obtain⟨b,o,p,q,rfl,_,hbl,⟨Ap,cp,ep,_,_,hp⟩,⟨Aq,cq,eq,_,_,hq⟩,hsz,e0,e1,e2,e3,e4,e5⟩:=Lm HW.out i hlt;cases ep;cases eq;have XX:=HX.out.1.trans HR.out.1 (fun _ _ e=>e);have q0:=XX.cell e0 id;have q1:=XX.cell e1 id;have q2:=XX.cell e2 id;have q3:=XX.cell e3 id;have q4:=XX.cell e4 id;have q5:=XX.cell e5 id;have HN:Hid (Vd d.words[i]=true->(d.words.take (i+1)).all Vd=true):=fun e=>Yr Vd _ _ hlt HR.out.2 e
   have HB:Hid (Vd d.words[i]=false->Wk d=false):=fun e=>by unfold Wk;rw[Y0 Vd _ _ hlt e];rfl
   have HM:=Lib.hid (Rx (HF.out _ (List.getElem_mem hlt)));have HP:=Lib.hid (And.intro (Yb hp XX) (Yb hq XX));clear XX e0 e1 e2 e3 e4 e5 hp hq;generalize d.words[i]=x at *;by_cases a1:x.pos.length<=20
   ·by_cases a2:x.contents.length<=20
    ·have C:Hid (∀ o:Obj,Calls Tryz.prog 76 #[.slice (some ⟨wr.heap.size+1,0,none⟩) 2 2] ((wr.alloc o).alloc (.cells #[.slice Ap x.pos.length cp,.slice Aq x.contents.length cq] 43)) fun e w'=>e = .returned (.bool (Pc [x.pos,x.contents]))/\(wr.alloc o).alloc (.cells #[.slice Ap x.pos.length cp,.slice Aq x.contents.length cq] 43)=w'):=fun o=>by
      have t0:=Ziy (wr.alloc o) O _ _ cp cq _ _ (Yb HP.out.1 ((Fr.refl (fun _=>False) wr).alloc o)) (Yb HP.out.2 ((Fr.refl (fun _=>False) wr).alloc o)) (by
       have t1:=Te x.pos HM.out.1;have t2:=Te x.contents HM.out.2.1
       omega)
      rw[Za]at t0;exact t0
     have hk:Vd x=(Pc [x.pos,x.contents]&&Pn x.weight):=by unfold Vd;simp[a1,a2]
     generalize Pc [x.pos,x.contents]=fb at *;cases fb
     ·go_wp2_with (first|(go_at_call 76;refine (C.out _).mono ?_;rintro e w' ⟨rfl,rfl⟩)|fail)
      first|go_ret|go_ret2
      exact⟨Zg (HB.out (by rw[hk];rfl)).symm,HX.out.1.trans ((HR.out.1.alloc (.cells #[.string x.surface,.int .i64 x.left,.int .i64 x.right,.int .i64 x.weight,.slice Ap x.pos.length cp,.slice Aq x.contents.length cq] 45)).alloc (.cells #[.slice Ap x.pos.length cp,.slice Aq x.contents.length cq] 43)) (fun _ _ e=>e)⟩
     ·by_cases a3:-20000<=x.weight
      ·by_cases a4:x.weight<=20000
       ·have hk2:Vd x=true:=by rw[hk,Bl (by omega) (by omega)];rfl
        go_wp2_with (first|(go_at_call 76;refine (C.out _).mono ?_;rintro e w' ⟨rfl,rfl⟩)|fail)
        go_roundg (d.words.length-(i+1))
        case measure=>omega
        case rel=>exact⟨i+1,by go_num,by omega,by omega,(HR.out.1.alloc (.cells #[.string x.surface,.int .i64 x.left,.int .i64 x.right,.int .i64 x.weight,.slice Ap x.pos.length cp,.slice Aq x.contents.length cq] 45)).alloc (.cells #[.slice Ap x.pos.length cp,.slice Aq x.contents.length cq] 43),HN.out hk2⟩
       ·go_wp2_with (first|(go_at_call 76;refine (C.out _).mono ?_;rintro e w' ⟨rfl,rfl⟩)|fail)
        first|go_ret|go_ret2
        exact⟨Zg (HB.out (by rw[hk,Ns (by omega)];rfl)).symm,HX.out.1.trans ((HR.out.1.alloc (.cells #[.string x.surface,.int .i64 x.left,.int .i64 x.right,.int .i64 x.weight,.slice Ap x.pos.length cp,.slice Aq x.contents.length cq] 45)).alloc (.cells #[.slice Ap x.pos.length cp,.slice Aq x.contents.length cq] 43)) (fun _ _ e=>e)⟩
      ·go_wp2_with (first|(go_at_call 76;refine (C.out _).mono ?_;rintro e w' ⟨rfl,rfl⟩)|fail)
       first|go_ret|go_ret2
       exact⟨Zg (HB.out (by rw[hk,Ns (by omega)];rfl)).symm,HX.out.1.trans ((HR.out.1.alloc (.cells #[.string x.surface,.int .i64 x.left,.int .i64 x.right,.int .i64 x.weight,.slice Ap x.pos.length cp,.slice Aq x.contents.length cq] 45)).alloc (.cells #[.slice Ap x.pos.length cp,.slice Aq x.contents.length cq] 43)) (fun _ _ e=>e)⟩
    ·go_wp2_with fail
     first|go_ret|go_ret2
     exact⟨Zg (HB.out (Fw (by omega))).symm,HX.out.1.trans (HR.out.1.alloc (.cells #[.string x.surface,.int .i64 x.left,.int .i64 x.right,.int .i64 x.weight,.slice Ap x.pos.length cp,.slice Aq x.contents.length cq] 45)) (fun _ _ e=>e)⟩
   ·go_wp2_with fail
    first|go_ret|go_ret2
    exact⟨Zg (HB.out (Fw (by omega))).symm,HX.out.1.trans (HR.out.1.alloc (.cells #[.string x.surface,.int .i64 x.left,.int .i64 x.right,.int .i64 x.weight,.slice Ap x.pos.length cp,.slice Aq x.contents.length cq] 45)) (fun _ _ e=>e)⟩
  ·have HR2:Hid (Ext w0 wr/\d.words.all Vd=true):=⟨HR.out.1,by have:=HR.out.2;rw[List.take_of_length_le (by omega)]at this;exact this⟩;clear HR hi hg;have k6:=cellAt (HR2.out.1.heap HX.out.2 id) 6 (.slice A5 d.unknown.length c5) rfl;go_wp2_with fail
   go_loopg [49] d.unknown.length (fun g1 v49 wr=>∃ (i:Nat),v49 = .int .i64 (i:Int)/\i<=d.unknown.length/\d.unknown.length<=i+g1/\Hid (Ext w0 wr/\(d.unknown.take i).all Td=true))
   case atStart=>exact⟨0,rfl,by omega,by omega,HR2.out.1,rfl⟩
   case round =>
    obtain⟨i,rfl,hi,hg,HR⟩:=hrel;by_cases hlt:i<d.unknown.length
    ·have hlz:(i:Int)<(d.unknown.length:Int):=by omega
     have hz0:(0:Int)<=(i:Int):=by omega
     obtain⟨b,o,q,rfl,_,hbl,⟨Aq,cq,eq,_,_,hq⟩,e0,e1,e2,e3,e4⟩:=Zen HU.out i hlt;cases eq;have XX:=HX.out.1.trans HR.out.1 (fun _ _ e=>e);have q0:=XX.cell e0 id;have q1:=XX.cell e1 id;have q2:=XX.cell e2 id;have q3:=XX.cell e3 id;have q4:=XX.cell e4 id;have HN:Hid (Td d.unknown[i]=true->(d.unknown.take (i+1)).all Td=true):=fun e=>Yr Td _ _ hlt HR.out.2 e
     have HB:Hid (Td d.unknown[i]=false->Wk d=false):=fun e=>by unfold Wk;rw[Y0 Td _ _ hlt e];simp
     have HM:=Lib.hid (HG.out _ (List.getElem_mem hlt));have HP:=Lib.hid (Yb hq XX);clear XX e0 e1 e2 e3 e4 hq;generalize d.unknown[i]=x at *;by_cases a2:x.contents.length<=20
     ·have C:Hid (∀ o:Obj,Calls Tryz.prog 76 #[.slice (some ⟨wr.heap.size+1,0,none⟩) 1 1] ((wr.alloc o).alloc (.cells #[.slice Aq x.contents.length cq] 43)) fun e w'=>e = .returned (.bool (Pc [x.contents]))/\(wr.alloc o).alloc (.cells #[.slice Aq x.contents.length cq] 43)=w'):=fun o=>by
       have t0:=Zb0 (wr.alloc o) O _ cq _ (Yb HP.out ((Fr.refl (fun _=>False) wr).alloc o)) (by
        have t1:=Te x.contents HM.out
        omega)
       rw[Za]at t0;exact t0
      have hk:Td x=(Pc [x.contents]&&Pn x.weight):=by unfold Td;simp[a2]
      generalize Pc [x.contents]=fb at *;cases fb
      ·go_wp2_with (first|(go_at_call 76;refine (C.out _).mono ?_;rintro e w' ⟨rfl,rfl⟩)|fail)
       first|go_ret|go_ret2
       exact⟨Zg (HB.out (by rw[hk];rfl)).symm,HX.out.1.trans ((HR.out.1.alloc (.cells #[.int .i64 x.cls,.int .i64 x.left,.int .i64 x.right,.int .i64 x.weight,.slice Aq x.contents.length cq] 61)).alloc (.cells #[.slice Aq x.contents.length cq] 43)) (fun _ _ e=>e)⟩
      ·by_cases a3:-20000<=x.weight
       ·by_cases a4:x.weight<=20000
        ·have hk2:Td x=true:=by rw[hk,Bl (by omega) (by omega)];rfl
         go_wp2_with (first|(go_at_call 76;refine (C.out _).mono ?_;rintro e w' ⟨rfl,rfl⟩)|fail)
         go_roundg (d.unknown.length-(i+1))
         case measure=>omega
         case rel=>exact⟨i+1,by go_num,by omega,by omega,(HR.out.1.alloc (.cells #[.int .i64 x.cls,.int .i64 x.left,.int .i64 x.right,.int .i64 x.weight,.slice Aq x.contents.length cq] 61)).alloc (.cells #[.slice Aq x.contents.length cq] 43),HN.out hk2⟩
        ·go_wp2_with (first|(go_at_call 76;refine (C.out _).mono ?_;rintro e w' ⟨rfl,rfl⟩)|fail)
         first|go_ret|go_ret2
         exact⟨Zg (HB.out (by rw[hk];rw[Ns (by omega)];rfl)).symm,HX.out.1.trans ((HR.out.1.alloc (.cells #[.int .i64 x.cls,.int .i64 x.left,.int .i64 x.right,.int .i64 x.weight,.slice Aq x.contents.length cq] 61)).alloc (.cells #[.slice Aq x.contents.length cq] 43)) (fun _ _ e=>e)⟩
       ·go_wp2_with (first|(go_at_call 76;refine (C.out _).mono ?_;rintro e w' ⟨rfl,rfl⟩)|fail)
        first|go_ret|go_ret2
        exact⟨Zg (HB.out (by rw[hk];rw[Ns (by omega)];rfl)).symm,HX.out.1.trans ((HR.out.1.alloc (.cells #[.int .i64 x.cls,.int .i64 x.left,.int .i64 x.right,.int .i64 x.weight,.slice Aq x.contents.length cq] 61)).alloc (.cells #[.slice Aq x.contents.length cq] 43)) (fun _ _ e=>e)⟩
     ·go_wp2_with fail
      first|go_ret|go_ret2
      exact⟨Zg (HB.out (Zho (by omega))).symm,HX.out.1.trans (HR.out.1.alloc (.cells #[.int .i64 x.cls,.int .i64 x.left,.int .i64 x.right,.int .i64 x.weight,.slice Aq x.contents.length cq] 61)) (fun _ _ e=>e)⟩
    ·have HR3:Hid (Ext w0 wr/\d.words.all Vd=true/\d.unknown.all Td=true):=⟨HR.out.1,HR2.out.2,by have:=HR.out.2;rw[List.take_of_length_le (by omega)]at this;exact this⟩;clear HR HR2 hi hg;have k3:=cellAt (HR3.out.1.heap HX.out.2 id) 3 (.slice A2 d.costs.length c2) rfl;go_wp2_with fail
     go_loopg [78] d.costs.length (fun g1 v78 wq=>∃ (i:Nat),v78 = .int .i64 (i:Int)/\i<=d.costs.length/\d.costs.length<=i+g1/\wq=wr/\Hid ((d.costs.take i).all Pn=true))
     case atStart=>exact⟨0,rfl,by omega,by omega,rfl,rfl⟩
     case round =>
      obtain⟨i,rfl,hi,hg,rfl,HR⟩:=hrel;by_cases hlt:i<d.costs.length
      ·have hlz:(i:Int)<(d.costs.length:Int):=by omega
       have hz0:(0:Int)<=(i:Int):=by omega
       obtain⟨b,o,rfl,_,hbl,e0,_,_⟩:=Zag HC.out i hlt;have q0:=(HX.out.1.trans HR3.out.1 (fun _ _ e=>e)).cell e0 id;have HN:Hid (Pn d.costs[i]=true->(d.costs.take (i+1)).all Pn=true):=fun e=>Yr Pn _ _ hlt HR.out e
       have HB:Hid (Pn d.costs[i]=false->Wk d=false):=fun e=>by unfold Wk;rw[Y0 Pn _ _ hlt e];simp
       clear e0;generalize d.costs[i]=x at *;by_cases a3:-20000<=x
       ·by_cases a4:x<=20000
        ·go_wp2_with fail
         go_roundg (d.costs.length-(i+1))
         case measure=>omega
         case rel=>exact⟨i+1,by go_num,by omega,by omega,rfl,HN.out (Bl (by omega) (by omega))⟩
        ·go_wp2_with fail
         first|go_ret|go_ret2
         exact⟨Zg (HB.out (Ns (by omega))).symm,HX.out.1.trans HR3.out.1 (fun _ _ e=>e)⟩
       ·go_wp2_with fail
        first|go_ret|go_ret2
        exact⟨Zg (HB.out (Ns (by omega))).symm,HX.out.1.trans HR3.out.1 (fun _ _ e=>e)⟩
      ·have hA:Wk d=(decide (d.words.length<=60)&&(decide (d.unknown.length<=30)&&(decide (d.meta0.length<=20)&&(decide (d.unkMeta.length<=20)&&(decide (d.chars.length<=30)&&(decide (d.costs.length<=4096)&&(decide (d.user.length<=30)&&Pc [Ua d]))))))):=by
        have:=HR.out;rw[List.take_of_length_le (by omega)]at this;unfold Wk;rw[HR3.out.2.1,HR3.out.2.2,this];rfl
       have HA:=Lib.hid hA;have HE:Hid (Ext w wr):=HX.out.1.trans HR3.out.1 (fun _ _ e=>e);have hbx:=HR3.out.1.heap HX.out.2 id;clear hA HR hi hg HR3;have k0:=cellAt hbx 0 (.slice A1 d.words.length c1) rfl;have k1:=cellAt hbx 1 (.int .i64 d.rows) rfl;have k2:=cellAt hbx 2 (.int .i64 d.cols) rfl;have k3:=cellAt hbx 3 (.slice A2 d.costs.length c2) rfl;have k4:=cellAt hbx 4 (.slice A3 d.classes.length c3) rfl;have k5:=cellAt hbx 5 (.slice A4 d.chars.length c4) rfl;have k6:=cellAt hbx 6 (.slice A5 d.unknown.length c5) rfl;have k7:=cellAt hbx 7 (.slice A6 d.meta0.length c6) rfl;have k8:=cellAt hbx 8 (.slice A7 d.unkMeta.length c7) rfl;have k9:=cellAt hbx 9 (.bool d.hasUser) rfl;have k10:=cellAt hbx 10 (.slice A8 d.user.length c8) rfl;clear hbx;by_cases b1:d.words.length<=60
       ·by_cases b2:d.unknown.length<=30
        ·by_cases b3:d.meta0.length<=20
         ·by_cases b4:d.unkMeta.length<=20
          ·by_cases b5:d.chars.length<=30
           ·by_cases b6:d.costs.length<=4096
            ·by_cases b7:d.user.length<=30
             ·rw[decide_eq_true b1,decide_eq_true b2,decide_eq_true b3,decide_eq_true b4,decide_eq_true b5,decide_eq_true b6,decide_eq_true b7]at HA;have CS1:=Lib.hid (CS.out _ HE.out (by omega) (by omega));have HL:Hid ((Ua d).length<=1000):=by show _<=_;unfold Ua;rw[List.length_append,List.length_map,List.length_map];omega
              have HT:Hid (total (Ua d)<=4611686018427387904):=by
               have t1:=Te (Ua d) HS.out;have t2:=HL.out;show _<=_;omega
              go_wp2_with (first
               | (go_at_call 77;refine CS1.out.mono ?_;rintro e w2 ⟨v,rfl,ho,hx⟩;obtain⟨Av,cv,ev⟩:=Zl ho;subst ev;have HO:=Lib.hid (And.intro ho hx);clear ho hx)
               | (go_at_call 76;refine (Zb0 w2 (fun _=>True) Av cv (Ua d) (Zfp HO.out.1 HL.out HS.out) HT.out).mono ?_;rintro e w' ⟨rfl,rfl⟩)
               | fail)
              first|go_ret|go_ret2
              exact⟨Zg (by rw[HA.out];rfl),HE.out.trans (HO.out.2.alloc _) (fun _ _ e=>e)⟩
             ·go_wp2_with fail
              first|go_ret|go_ret2
              exact⟨Zg (by rw[HA.out,decide_eq_false (p:=d.user.length<=30) (by omega)];simp),HE.out⟩
            ·go_wp2_with fail
             first|go_ret|go_ret2
             exact⟨Zg (by rw[HA.out,decide_eq_false (p:=d.costs.length<=4096) (by omega)];simp),HE.out⟩
           ·go_wp2_with fail
            first|go_ret|go_ret2
            exact⟨Zg (by rw[HA.out,decide_eq_false (p:=d.chars.length<=30) (by omega)];simp),HE.out⟩
          ·go_wp2_with fail
           first|go_ret|go_ret2
           exact⟨Zg (by rw[HA.out,decide_eq_false (p:=d.unkMeta.length<=20) (by omega)];simp),HE.out⟩
         ·go_wp2_with fail
          first|go_ret|go_ret2
          exact⟨Zg (by rw[HA.out,decide_eq_false (p:=d.meta0.length<=20) (by omega)];simp),HE.out⟩
        ·go_wp2_with fail
         first|go_ret|go_ret2
         exact⟨Zg (by rw[HA.out,decide_eq_false (p:=d.unknown.length<=30) (by omega)];simp),HE.out⟩
       ·go_wp2_with fail
        first|go_ret|go_ret2
        exact⟨Zg (by rw[HA.out,decide_eq_false (p:=d.words.length<=60) (by omega)];simp),HE.out⟩
end Go.Proofs.YtoliamijgmifkaaGreatDoor
