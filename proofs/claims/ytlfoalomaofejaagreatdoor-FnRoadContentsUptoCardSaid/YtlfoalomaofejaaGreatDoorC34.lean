/- laws.smallDict. -/
import Derived.Test.YtlfoalomaofejaaGreatDoorC33
import Derived.Test.YtlfoalomaofejaaGreatDoorC27
set_option linter.all false
set_option maxRecDepth 100000
set_option maxHeartbeats 4000000
namespace Go.Proofs.YtlfoalomaofejaaGreatDoor
open Go.RowKit DT SS TR LT
def Og(x:Int):Bool:=decide (-20000<=x)&&decide (x<=20000)
def Wo(x:GWord):Bool:=decide (x.pos.length<=20)&&(decide (x.contents.length<=20)&&(Sh [x.pos,x.contents]&&Og x.weight))
def Si(x:GUnk):Bool:=decide (x.contents.length<=20)&&(Sh [x.contents]&&Og x.weight)
def We(d:Zg):Bool:=d.words.all Wo&&(d.unknown.all Si&&(d.costs.all Og&&(decide (d.words.length<=60)&&(decide (d.unknown.length<=30)&&(decide (d.meta0.length<=20)&&(decide (d.unkMeta.length<=20)&&(decide (d.chars.length<=30)&&(decide (d.costs.length<=4096)&&(decide (d.user.length<=30)&&Sh [Uo d])))))))))
theorem Zbs{x:Int}(h1:-20000<=x)(h2:x<=20000):Og x=true:=by simp[Og,h1,h2]
theorem Mr{x:Int}(h:¬ (-20000<=x/\x<=20000)):Og x=false:=by
 rw[Bool.eq_false_iff];intro e;simp[Og]at e;exact h e
theorem Cv{x:GWord}(h:¬ (x.pos.length<=20/\x.contents.length<=20)):Wo x=false:=by
 rw[Bool.eq_false_iff];intro e;simp[Wo]at e;exact h ⟨e.1,e.2.1⟩
theorem Zj9{x:GUnk}(h:¬ x.contents.length<=20):Si x=false:=by
 rw[Bool.eq_false_iff];intro e;simp[Si]at e;exact h e.1
theorem Sj(xs:List ByteArray)(h:∀ s∈xs,s.size<=2147483647):total xs<=xs.length*2147483648:=by
 induction xs with
 | nil=>exact Nl _
 | cons a l ih =>
  have h1:=h a (by simp);have h2:=ih (λs hs=>h s (by simp[hs]));unfold total at h2⊢;rw[List.map_cons,List.sum_cons,List.length_cons,Nat.add_mul];omega
theorem Li{xs:List ByteArray}(h:Xj xs=true):∀ s∈xs,s.size<=2147483647:=by
 unfold Xj at h;rw[Bool.and_eq_true,List.all_eq_true]at h;exact λs hs=>by simpa [Yi] using h.2 s hs
theorem Qj{x:GWord}(h:Xb x=true):(∀ s∈x.pos,s.size<=2147483647)/\(∀ s∈x.contents,s.size<=2147483647)/\x.surface.size<=2147483647:=by
 unfold Xb at h;rw[Bool.and_eq_true,Bool.and_eq_true]at h;exact⟨Li h.2.1,Li h.2.2,by simpa [Yi] using h.1⟩
theorem Zln(W:World)(O:Nat->Prop)(A1 A2:Option Addr)(c1 c2:Nat)(x y:List ByteArray)(h1:Ty.str.At W O A1 x)(h2:Ty.str.At W O A2 y)(hs:total x+total y<=4611686018427387904) :
  Calls Tryz.prog 45 #[.slice (some ⟨W.heap.size,0,none⟩) 2 2] (W.alloc (.cells #[.slice A1 x.length c1,.slice A2 y.length c2] 34)) λe w'=>e=.returned (.bool (Sh [x,y]))/\W.alloc (.cells #[.slice A1 x.length c1,.slice A2 y.length c2] 34)=w':=by
 have X:=(Fe W).alloc (.cells #[.slice A1 x.length c1,.slice A2 y.length c2] 34);have B:=alloc_at W (.cells #[.slice A1 x.length c1,.slice A2 y.length c2] 34);have hz:=Za W (.cells #[.slice A1 x.length c1,.slice A2 y.length c2] 34);refine Dm _ O _ 2 [x,y] (by simp) (by simpa using hs) ?_;intro k hk
 match k,hk with
 | 0,_=>exact⟨_,0,A1,c1,rfl,by rw[hz];omega,cellAt B 0 _ rfl,Z3 h1 X⟩
 | 1,_=>exact⟨_,0,A2,c2,rfl,by rw[hz];omega,cellAt B 1 _ rfl,Z3 h2 X⟩
theorem Zea(W:World)(O:Nat->Prop)(A1:Option Addr)(c1:Nat)(x:List ByteArray)(h1:Ty.str.At W O A1 x)(hs:total x<=4611686018427387904) :
  Calls Tryz.prog 45 #[.slice (some ⟨W.heap.size,0,none⟩) 1 1] (W.alloc (.cells #[.slice A1 x.length c1] 34)) λe w'=>e=.returned (.bool (Sh [x]))/\W.alloc (.cells #[.slice A1 x.length c1] 34)=w':=by
 have X:=(Fe W).alloc (.cells #[.slice A1 x.length c1] 34);have B:=alloc_at W (.cells #[.slice A1 x.length c1] 34);have hz:=Za W (.cells #[.slice A1 x.length c1] 34);refine Dm _ O _ 1 [x] (by simp) (by simpa using hs) ?_;intro k hk
 match k,hk with
 | 0,_=>exact⟨_,0,A1,c1,rfl,by rw[hz];omega,cellAt B 0 _ rfl,Z3 h1 X⟩
theorem Zi0{d:Zg}(h:Yl d=true):∀ s∈Uo d,s.size<=2147483647:=by
 unfold Yl at h;simp only[Bool.and_eq_true]at h;intro s hs;unfold Uo at hs;rcases List.mem_append.1 hs with hs|hs
 ·obtain⟨x,hx,rfl⟩:=List.mem_map.1 hs;exact (Qj (List.all_eq_true.1 h.1.2 x hx)).2.2
 ·obtain⟨x,hx,rfl⟩:=List.mem_map.1 hs;have:=List.all_eq_true.1 h.2.2.2.2.2.2.2.2 x hx;unfold Wh at this;rw[Bool.and_eq_true]at this;simpa [Yi] using this.1
theorem Zh0{w:World}{B T:Nat}{A:Option Addr}{c:Nat}{xs:List ByteArray}(h:w.ownsRow B T 1 (.slice A xs.length c) xs.length (xs.map Value.string))(hl:xs.length<=1000)(hs:∀ s∈xs,s.size<=2147483647):Ty.str.At w (λ_=>True) A xs:=by
 refine⟨Om,?_⟩;by_cases h0:xs=[]
 ·exact Or.inl h0
 ·have hp:0<xs.length:=List.length_pos_iff.2 h0;obtain⟨g,c',e,ec,_⟩:=Vb h 0 (by simpa using hp);simp only[Value.slice.injEq]at e;obtain⟨rfl,_,rfl⟩:=e;refine Or.inr ⟨g,0,rfl,trivial,?_,?_⟩
  ·rw[List.getElem?_map,Ge hp]at ec;exact lt_of_cell ec
  ·intro k hk;obtain⟨g',c',e,ek,_⟩:=Vb h k (by simpa using hk);simp only[Value.slice.injEq]at e;obtain⟨e,_,_⟩:=e;cases e;refine⟨[.string xs[k]],⟨rfl,Nt (hs _ (List.getElem_mem hk)) (by decide)⟩,?_⟩;intro j hj;have:j=0:=(by simpa using hj);subst this;rw[List.getElem?_map,Ge hk]at ek;have e1:0+k*Ty.str.sz+0=k:=by show 0+k*1+0=k;omega
   rw[e1];exact ek
theorem I7(w:World)(O:Nat->Prop)(d:Zg)(cs:List Value)(h:tDict.R w O d cs)(hf:Yl d=true):Calls Tryz.prog 15 #[.agg cs.toArray] w λe w'=>e=.returned (.bool (We d))/\Zf w w':=by
 have CS:Hid (∀ W,Zf w W->d.words.length<=1000->d.user.length<=1000->Calls Tryz.prog 55 #[.agg cs.toArray] W λe w'=>∃ v,e=.returned v/\w'.ownsRow (W.heap.size+1) 9 1 v (Uo d).length ((Uo d).map Value.string)/\Zf W w'):=λW f a b=>Ei W O d cs (tDict.ext h f) a b
 obtain⟨A1,c1,A2,c2,A3,c3,A4,c4,A5,c5,A6,c6,A7,c7,A8,c8,rfl,h1,h2,h3,h4,h5,h6,h7,h8,_⟩:=Yy h;have HW:=Hd h1.2.2;have HC:=Hd h2.2.2;have HU:=Hd h5.2.2
 have hlen:d.words.length<=2147483647/\d.costs.length<=2147483647/\d.unknown.length<=2147483647:=by
  unfold Yl at hf;simp only[Bool.and_eq_true]at hf;exact⟨by simpa [Yi] using hf.1.1,by simpa [Yi] using hf.2.1,by simpa [Yi] using hf.2.2.2.2.1.1⟩
 obtain⟨hlw,hlc,hlu⟩:=hlen
 have HF:Hid (∀ x∈d.words,Xb x=true):=by
  unfold Yl at hf;simp only[Bool.and_eq_true]at hf;exact λx hx=>List.all_eq_true.1 hf.1.2 x hx
 have HG:Hid (∀ x∈d.unknown,∀ s∈x.contents,s.size<=2147483647):=by
  unfold Yl at hf;simp only[Bool.and_eq_true]at hf;exact λx hx=>Li (List.all_eq_true.1 hf.2.2.2.2.1.2 x hx)
 have HS:=Hd (Zi0 hf);have B0:=alloc_at w (.cells #[.slice A1 d.words.length c1,.int .i64 d.rows,.int .i64 d.cols,.slice A2 d.costs.length c2,.slice A3 d.classes.length c3,.slice A4 d.chars.length c4,.slice A5 d.unknown.length c5,.slice A6 d.meta0.length c6,.slice A7 d.unkMeta.length c7,.bool d.hasUser,.slice A8 d.user.length c8] 30);have X0:=(Fe w).alloc (.cells #[.slice A1 d.words.length c1,.int .i64 d.rows,.int .i64 d.cols,.slice A2 d.costs.length c2,.slice A3 d.classes.length c3,.slice A4 d.chars.length c4,.slice A5 d.unknown.length c5,.slice A6 d.meta0.length c6,.slice A7 d.unkMeta.length c7,.bool d.hasUser,.slice A8 d.user.length c8] 30);have k0:=cellAt B0 0 (.slice A1 d.words.length c1) rfl;have HX:=Hd (Ai1 X0 B0);clear h h1 h2 h3 h4 h5 h6 h7 h8 X0 B0 hf;go_enter Tryz.func15,Tryz.ntmps15
 go_wp2_with fail
 generalize w.alloc _=w0 at *
 go_loopg [12] d.words.length (λg1 v12 wr=>∃ (i:Nat),v12=.int .i64 (i:Int)/\i<=d.words.length/\d.words.length<=i+g1/\Hid (Zf w0 wr/\(d.words.take i).all Wo=true))
 case atStart=>exact⟨0,rfl,Om,Om,Fl _,rfl⟩
 case round =>
  obtain⟨i,rfl,hi,hg,HR⟩:=hrel;by_cases hlt:i<d.words.length
  ·have hlz:(i:Int)<(d.words.length:Int):=Om;have hz0:(0:Int)<=(i:Int):=Om;obtain⟨b,o,p,q,rfl,_,hbl,⟨Ap,cp,ep,_,_,hp⟩,⟨Aq,cq,eq,_,_,hq⟩,hsz,e0,e1,e2,e3,e4,e5⟩:=Nf HW.out i hlt;cases ep;cases eq;have XX:=HX.out.1.trans HR.out.1 (λ_ _ e=>e);have q0:=XX.cell e0 id;have q1:=XX.cell e1 id;have q2:=XX.cell e2 id;have q3:=XX.cell e3 id;have q4:=XX.cell e4 id;have q5:=XX.cell e5 id;have HN:Hid (Wo d.words[i]=true->(d.words.take (i+1)).all Wo=true):=λe=>Ys Wo _ _ hlt HR.out.2 e
   have HB:Hid (Wo d.words[i]=false->We d=false):=λe=>by unfold We;rw[Y5 Wo _ _ hlt e];rfl
   have HM:=Hd (Qj (HF.out _ (List.getElem_mem hlt)));have HP:=Hd (Ai1 (Z3 hp XX) (Z3 hq XX));clear XX e0 e1 e2 e3 e4 e5 hp hq;generalize d.words[i]=x at *;by_cases a1:x.pos.length<=20
   ·by_cases a2:x.contents.length<=20
    ·have C:Hid (∀ o:Obj,Calls Tryz.prog 45 #[.slice (some ⟨wr.heap.size+1,0,none⟩) 2 2] ((wr.alloc o).alloc (.cells #[.slice Ap x.pos.length cp,.slice Aq x.contents.length cq] 34)) λe w'=>e=.returned (.bool (Sh [x.pos,x.contents]))/\(wr.alloc o).alloc (.cells #[.slice Ap x.pos.length cp,.slice Aq x.contents.length cq] 34)=w'):=λo=>by
      have t0:=Zln (wr.alloc o) O _ _ cp cq _ _ (Z3 HP.out.1 ((Fe wr).alloc o)) (Z3 HP.out.2 ((Fe wr).alloc o)) (by
       have t1:=Sj x.pos HM.out.1;have t2:=Sj x.contents HM.out.2.1
       omega)
      rw[Za]at t0;exact t0
     have hk:Wo x=(Sh [x.pos,x.contents]&&Og x.weight):=by unfold Wo;simp[a1,a2]
     generalize Sh [x.pos,x.contents]=fb at *;cases fb
     ·go_wp2_with (first|(go_at_call 45;refine (C.out _).mono ?_;rintro e w' ⟨rfl,rfl⟩)|fail)
      first|go_ret|go_ret2
      exact⟨Zh (HB.out (by rw[hk];rfl)).symm,HX.out.1.trans ((HR.out.1.alloc (.cells #[.string x.surface,.int .i64 x.left,.int .i64 x.right,.int .i64 x.weight,.slice Ap x.pos.length cp,.slice Aq x.contents.length cq] 53)).alloc (.cells #[.slice Ap x.pos.length cp,.slice Aq x.contents.length cq] 34)) (λ_ _ e=>e)⟩
     ·by_cases a3:-20000<=x.weight
      ·by_cases a4:x.weight<=20000
       ·have hk2:Wo x=true:=by rw[hk,Zbs Om Om];rfl
        go_wp2_with (first|(go_at_call 45;refine (C.out _).mono ?_;rintro e w' ⟨rfl,rfl⟩)|fail)
        go_roundg (d.words.length-(i+1))
        case measure=>omega
        case rel=>exact⟨i+1,by go_num,Om,Om,(HR.out.1.alloc (.cells #[.string x.surface,.int .i64 x.left,.int .i64 x.right,.int .i64 x.weight,.slice Ap x.pos.length cp,.slice Aq x.contents.length cq] 53)).alloc (.cells #[.slice Ap x.pos.length cp,.slice Aq x.contents.length cq] 34),HN.out hk2⟩
       ·go_wp2_with (first|(go_at_call 45;refine (C.out _).mono ?_;rintro e w' ⟨rfl,rfl⟩)|fail)
        first|go_ret|go_ret2
        exact⟨Zh (HB.out (by rw[hk,Mr Om];rfl)).symm,HX.out.1.trans ((HR.out.1.alloc (.cells #[.string x.surface,.int .i64 x.left,.int .i64 x.right,.int .i64 x.weight,.slice Ap x.pos.length cp,.slice Aq x.contents.length cq] 53)).alloc (.cells #[.slice Ap x.pos.length cp,.slice Aq x.contents.length cq] 34)) (λ_ _ e=>e)⟩
      ·go_wp2_with (first|(go_at_call 45;refine (C.out _).mono ?_;rintro e w' ⟨rfl,rfl⟩)|fail)
       first|go_ret|go_ret2
       exact⟨Zh (HB.out (by rw[hk,Mr Om];rfl)).symm,HX.out.1.trans ((HR.out.1.alloc (.cells #[.string x.surface,.int .i64 x.left,.int .i64 x.right,.int .i64 x.weight,.slice Ap x.pos.length cp,.slice Aq x.contents.length cq] 53)).alloc (.cells #[.slice Ap x.pos.length cp,.slice Aq x.contents.length cq] 34)) (λ_ _ e=>e)⟩
    ·go_wp2_with fail
     first|go_ret|go_ret2
     exact⟨Zh (HB.out (Cv Om)).symm,HX.out.1.trans (HR.out.1.alloc (.cells #[.string x.surface,.int .i64 x.left,.int .i64 x.right,.int .i64 x.weight,.slice Ap x.pos.length cp,.slice Aq x.contents.length cq] 53)) (λ_ _ e=>e)⟩
   ·go_wp2_with fail
    first|go_ret|go_ret2
    exact⟨Zh (HB.out (Cv Om)).symm,HX.out.1.trans (HR.out.1.alloc (.cells #[.string x.surface,.int .i64 x.left,.int .i64 x.right,.int .i64 x.weight,.slice Ap x.pos.length cp,.slice Aq x.contents.length cq] 53)) (λ_ _ e=>e)⟩
  ·have HR2:Hid (Zf w0 wr/\d.words.all Wo=true):=⟨HR.out.1,by have:=HR.out.2;rw[List.take_of_length_le Om]at this;exact this⟩;clear HR hi hg;have k6:=cellAt (HR2.out.1.heap HX.out.2 id) 6 (.slice A5 d.unknown.length c5) rfl;go_wp2_with fail
   go_loopg [49] d.unknown.length (λg1 v49 wr=>∃ (i:Nat),v49=.int .i64 (i:Int)/\i<=d.unknown.length/\d.unknown.length<=i+g1/\Hid (Zf w0 wr/\(d.unknown.take i).all Si=true))
   case atStart=>exact⟨0,rfl,Om,Om,HR2.out.1,rfl⟩
   case round =>
    obtain⟨i,rfl,hi,hg,HR⟩:=hrel;by_cases hlt:i<d.unknown.length
    ·have hlz:(i:Int)<(d.unknown.length:Int):=Om;have hz0:(0:Int)<=(i:Int):=Om;obtain⟨b,o,q,rfl,_,hbl,⟨Aq,cq,eq,_,_,hq⟩,e0,e1,e2,e3,e4⟩:=Zgx HU.out i hlt;cases eq;have XX:=HX.out.1.trans HR.out.1 (λ_ _ e=>e);have q0:=XX.cell e0 id;have q1:=XX.cell e1 id;have q2:=XX.cell e2 id;have q3:=XX.cell e3 id;have q4:=XX.cell e4 id;have HN:Hid (Si d.unknown[i]=true->(d.unknown.take (i+1)).all Si=true):=λe=>Ys Si _ _ hlt HR.out.2 e
     have HB:Hid (Si d.unknown[i]=false->We d=false):=λe=>by unfold We;rw[Y5 Si _ _ hlt e];simp
     have HM:=Hd (HG.out _ (List.getElem_mem hlt));have HP:=Hd (Z3 hq XX);clear XX e0 e1 e2 e3 e4 hq;generalize d.unknown[i]=x at *;by_cases a2:x.contents.length<=20
     ·have C:Hid (∀ o:Obj,Calls Tryz.prog 45 #[.slice (some ⟨wr.heap.size+1,0,none⟩) 1 1] ((wr.alloc o).alloc (.cells #[.slice Aq x.contents.length cq] 34)) λe w'=>e=.returned (.bool (Sh [x.contents]))/\(wr.alloc o).alloc (.cells #[.slice Aq x.contents.length cq] 34)=w'):=λo=>by
       have t0:=Zea (wr.alloc o) O _ cq _ (Z3 HP.out ((Fe wr).alloc o)) (by
        have t1:=Sj x.contents HM.out
        omega)
       rw[Za]at t0;exact t0
      have hk:Si x=(Sh [x.contents]&&Og x.weight):=by unfold Si;simp[a2]
      generalize Sh [x.contents]=fb at *;cases fb
      ·go_wp2_with (first|(go_at_call 45;refine (C.out _).mono ?_;rintro e w' ⟨rfl,rfl⟩)|fail)
       first|go_ret|go_ret2
       exact⟨Zh (HB.out (by rw[hk];rfl)).symm,HX.out.1.trans ((HR.out.1.alloc (.cells #[.int .i64 x.cls,.int .i64 x.left,.int .i64 x.right,.int .i64 x.weight,.slice Aq x.contents.length cq] 36)).alloc (.cells #[.slice Aq x.contents.length cq] 34)) (λ_ _ e=>e)⟩
      ·by_cases a3:-20000<=x.weight
       ·by_cases a4:x.weight<=20000
        ·have hk2:Si x=true:=by rw[hk,Zbs Om Om];rfl
         go_wp2_with (first|(go_at_call 45;refine (C.out _).mono ?_;rintro e w' ⟨rfl,rfl⟩)|fail)
         go_roundg (d.unknown.length-(i+1))
         case measure=>omega
         case rel=>exact⟨i+1,by go_num,Om,Om,(HR.out.1.alloc (.cells #[.int .i64 x.cls,.int .i64 x.left,.int .i64 x.right,.int .i64 x.weight,.slice Aq x.contents.length cq] 36)).alloc (.cells #[.slice Aq x.contents.length cq] 34),HN.out hk2⟩
        ·go_wp2_with (first|(go_at_call 45;refine (C.out _).mono ?_;rintro e w' ⟨rfl,rfl⟩)|fail)
         first|go_ret|go_ret2
         exact⟨Zh (HB.out (by rw[hk];rw[Mr Om];rfl)).symm,HX.out.1.trans ((HR.out.1.alloc (.cells #[.int .i64 x.cls,.int .i64 x.left,.int .i64 x.right,.int .i64 x.weight,.slice Aq x.contents.length cq] 36)).alloc (.cells #[.slice Aq x.contents.length cq] 34)) (λ_ _ e=>e)⟩
       ·go_wp2_with (first|(go_at_call 45;refine (C.out _).mono ?_;rintro e w' ⟨rfl,rfl⟩)|fail)
        first|go_ret|go_ret2
        exact⟨Zh (HB.out (by rw[hk];rw[Mr Om];rfl)).symm,HX.out.1.trans ((HR.out.1.alloc (.cells #[.int .i64 x.cls,.int .i64 x.left,.int .i64 x.right,.int .i64 x.weight,.slice Aq x.contents.length cq] 36)).alloc (.cells #[.slice Aq x.contents.length cq] 34)) (λ_ _ e=>e)⟩
     ·go_wp2_with fail
      first|go_ret|go_ret2
      exact⟨Zh (HB.out (Zj9 Om)).symm,HX.out.1.trans (HR.out.1.alloc (.cells #[.int .i64 x.cls,.int .i64 x.left,.int .i64 x.right,.int .i64 x.weight,.slice Aq x.contents.length cq] 36)) (λ_ _ e=>e)⟩
    ·have HR3:Hid (Zf w0 wr/\d.words.all Wo=true/\d.unknown.all Si=true):=⟨HR.out.1,HR2.out.2,by have:=HR.out.2;rw[List.take_of_length_le Om]at this;exact this⟩;clear HR HR2 hi hg;have k3:=cellAt (HR3.out.1.heap HX.out.2 id) 3 (.slice A2 d.costs.length c2) rfl;go_wp2_with fail
     go_loopg [78] d.costs.length (λg1 v78 wq=>∃ (i:Nat),v78=.int .i64 (i:Int)/\i<=d.costs.length/\d.costs.length<=i+g1/\wq=wr/\Hid ((d.costs.take i).all Og=true))
     case atStart=>exact⟨0,rfl,Om,Om,rfl,rfl⟩
     case round =>
      obtain⟨i,rfl,hi,hg,rfl,HR⟩:=hrel;by_cases hlt:i<d.costs.length
      ·have hlz:(i:Int)<(d.costs.length:Int):=Om;have hz0:(0:Int)<=(i:Int):=Om;obtain⟨b,o,rfl,_,hbl,e0,_,_⟩:=Zcq HC.out i hlt;have q0:=(HX.out.1.trans HR3.out.1 (λ_ _ e=>e)).cell e0 id;have HN:Hid (Og d.costs[i]=true->(d.costs.take (i+1)).all Og=true):=λe=>Ys Og _ _ hlt HR.out e
       have HB:Hid (Og d.costs[i]=false->We d=false):=λe=>by unfold We;rw[Y5 Og _ _ hlt e];simp
       clear e0;generalize d.costs[i]=x at *;by_cases a3:-20000<=x
       ·by_cases a4:x<=20000
        ·go_wp2_with fail
         go_roundg (d.costs.length-(i+1))
         case measure=>omega
         case rel=>exact⟨i+1,by go_num,Om,Om,rfl,HN.out (Zbs Om Om)⟩
        ·go_wp2_with fail
         first|go_ret|go_ret2
         exact⟨Zh (HB.out (Mr Om)).symm,HX.out.1.trans HR3.out.1 (λ_ _ e=>e)⟩
       ·go_wp2_with fail
        first|go_ret|go_ret2
        exact⟨Zh (HB.out (Mr Om)).symm,HX.out.1.trans HR3.out.1 (λ_ _ e=>e)⟩
      ·have hA:We d=(decide (d.words.length<=60)&&(decide (d.unknown.length<=30)&&(decide (d.meta0.length<=20)&&(decide (d.unkMeta.length<=20)&&(decide (d.chars.length<=30)&&(decide (d.costs.length<=4096)&&(decide (d.user.length<=30)&&Sh [Uo d]))))))):=by
        have:=HR.out;rw[List.take_of_length_le Om]at this;unfold We;rw[HR3.out.2.1,HR3.out.2.2,this];rfl
       have HA:=Hd hA;have HE:Hid (Zf w wr):=HX.out.1.trans HR3.out.1 (λ_ _ e=>e);have hbx:=HR3.out.1.heap HX.out.2 id;clear hA HR hi hg HR3;have k0:=cellAt hbx 0 (.slice A1 d.words.length c1) rfl;have k1:=cellAt hbx 1 (.int .i64 d.rows) rfl;have k2:=cellAt hbx 2 (.int .i64 d.cols) rfl;have k3:=cellAt hbx 3 (.slice A2 d.costs.length c2) rfl;have k4:=cellAt hbx 4 (.slice A3 d.classes.length c3) rfl;have k5:=cellAt hbx 5 (.slice A4 d.chars.length c4) rfl;have k6:=cellAt hbx 6 (.slice A5 d.unknown.length c5) rfl;have k7:=cellAt hbx 7 (.slice A6 d.meta0.length c6) rfl;have k8:=cellAt hbx 8 (.slice A7 d.unkMeta.length c7) rfl;have k9:=cellAt hbx 9 (.bool d.hasUser) rfl;have k10:=cellAt hbx 10 (.slice A8 d.user.length c8) rfl;clear hbx;by_cases b1:d.words.length<=60
       ·by_cases b2:d.unknown.length<=30
        ·by_cases b3:d.meta0.length<=20
         ·by_cases b4:d.unkMeta.length<=20
          ·by_cases b5:d.chars.length<=30
           ·by_cases b6:d.costs.length<=4096
            ·by_cases b7:d.user.length<=30
             ·rw[decide_eq_true b1,decide_eq_true b2,decide_eq_true b3,decide_eq_true b4,decide_eq_true b5,decide_eq_true b6,decide_eq_true b7]at HA;have CS1:=Hd (CS.out _ HE.out Om Om);have HL:Hid ((Uo d).length<=1000):=by show _<=_;unfold Uo;rw[List.length_append,List.length_map,List.length_map];omega
              have HT:Hid (total (Uo d)<=4611686018427387904):=by
               have t1:=Sj (Uo d) HS.out;have t2:=HL.out;show _<=_;omega
              go_wp2_with (first
               | (go_at_call 55;refine CS1.out.mono ?_;rintro e w2 ⟨v,rfl,ho,hx⟩;obtain⟨Av,cv,ev⟩:=Zl ho;subst ev;have HO:=Hd (Ai1 ho hx);clear ho hx)
               | (go_at_call 45;refine (Zea w2 (λ_=>True) Av cv (Uo d) (Zh0 HO.out.1 HL.out HS.out) HT.out).mono ?_;rintro e w' ⟨rfl,rfl⟩)
               | fail)
              first|go_ret|go_ret2
              exact⟨Zh (by rw[HA.out];rfl),HE.out.trans (HO.out.2.alloc _) (λ_ _ e=>e)⟩
             ·go_wp2_with fail
              first|go_ret|go_ret2
              exact⟨Zh (by rw[HA.out,decide_eq_false (p:=d.user.length<=30) Om];simp),HE.out⟩
            ·go_wp2_with fail
             first|go_ret|go_ret2
             exact⟨Zh (by rw[HA.out,decide_eq_false (p:=d.costs.length<=4096) Om];simp),HE.out⟩
           ·go_wp2_with fail
            first|go_ret|go_ret2
            exact⟨Zh (by rw[HA.out,decide_eq_false (p:=d.chars.length<=30) Om];simp),HE.out⟩
          ·go_wp2_with fail
           first|go_ret|go_ret2
           exact⟨Zh (by rw[HA.out,decide_eq_false (p:=d.unkMeta.length<=20) Om];simp),HE.out⟩
         ·go_wp2_with fail
          first|go_ret|go_ret2
          exact⟨Zh (by rw[HA.out,decide_eq_false (p:=d.meta0.length<=20) Om];simp),HE.out⟩
        ·go_wp2_with fail
         first|go_ret|go_ret2
         exact⟨Zh (by rw[HA.out,decide_eq_false (p:=d.unknown.length<=30) Om];simp),HE.out⟩
       ·go_wp2_with fail
        first|go_ret|go_ret2
        exact⟨Zh (by rw[HA.out,decide_eq_false (p:=d.words.length<=60) Om];simp),HE.out⟩
end Go.Proofs.YtlfoalomaofejaaGreatDoor
