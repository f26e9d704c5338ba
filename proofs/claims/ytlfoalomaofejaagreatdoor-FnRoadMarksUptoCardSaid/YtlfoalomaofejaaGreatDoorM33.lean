/- laws.smallDict. -/
import Derived.Test.YtlfoalomaofejaaGreatDoorM32
import Derived.Test.YtlfoalomaofejaaGreatDoorM26
set_option linter.all false
set_option maxRecDepth 100000
set_option maxHeartbeats 4000000
namespace Go.Proofs.YtlfoalomaofejaaGreatDoor
open Go.RowKit DT SS TR LT
def Ow(x:Int):Bool:=decide (-20000<=x)&&decide (x<=20000)
def Vs(x:GWord):Bool:=decide (x.pos.length<=20)&&(decide (x.contents.length<=20)&&(Og [x.pos,x.contents]&&Ow x.weight))
def Tu(x:GUnk):Bool:=decide (x.contents.length<=20)&&(Og [x.contents]&&Ow x.weight)
def Xx(d:Zg):Bool:=d.words.all Vs&&(d.unknown.all Tu&&(d.costs.all Ow&&(decide (d.words.length<=60)&&(decide (d.unknown.length<=30)&&(decide (d.meta0.length<=20)&&(decide (d.unkMeta.length<=20)&&(decide (d.chars.length<=30)&&(decide (d.costs.length<=4096)&&(decide (d.user.length<=30)&&Og [Uv d])))))))))
theorem Zch{x:Int}(h1:-20000<=x)(h2:x<=20000):Ow x=true:=by simp[Ow,h1,h2]
theorem M9{x:Int}(h:¬ (-20000<=x/\x<=20000)):Ow x=false:=by
 rw[Bool.eq_false_iff];intro e;simp[Ow]at e;exact h e
theorem Bq{x:GWord}(h:¬ (x.pos.length<=20/\x.contents.length<=20)):Vs x=false:=by
 rw[Bool.eq_false_iff];intro e;simp[Vs]at e;exact h ⟨e.1,e.2.1⟩
theorem Zlb{x:GUnk}(h:¬ x.contents.length<=20):Tu x=false:=by
 rw[Bool.eq_false_iff];intro e;simp[Tu]at e;exact h e.1
theorem Tv(xs:List ByteArray)(h:∀ s∈xs,s.size<=2147483647):total xs<=xs.length*2147483648:=by
 induction xs with
 | nil=>exact Nl _
 | cons a l ih =>
  have h1:=h a (by simp);have h2:=ih (λs q=>h s (by simp[q]));unfold total at h2⊢;rw[List.map_cons,List.sum_cons,List.length_cons,Nat.add_mul];omega
theorem Lz{xs:List ByteArray}(h:Xr xs=true):∀ s∈xs,s.size<=2147483647:=by
 unfold Xr at h;rw[Bool.and_eq_true,List.all_eq_true]at h;exact λs q=>by simpa [Yl] using h.2 s q
theorem Qm{x:GWord}(h:Xk x=true):(∀ s∈x.pos,s.size<=2147483647)/\(∀ s∈x.contents,s.size<=2147483647)/\x.surface.size<=2147483647:=by
 unfold Xk at h;rw[Bool.and_eq_true,Bool.and_eq_true]at h;exact⟨Lz h.2.1,Lz h.2.2,by simpa [Yl] using h.1⟩
theorem Zml(W:World)(O:Nat->Prop)(q h:Option Addr)(A z:Nat)(x y:List ByteArray)(h1:Ty.str.At W O q x)(h2:Ty.str.At W O h y)(I:total x+total y<=4611686018427387904) :
  Calls Tryz.prog 45 #[.slice (some ⟨W.heap.size,0,none⟩) 2 2] (W.alloc (.cells #[.slice q x.length A,.slice h y.length z] 34)) λe w'=>e=.returned (.bool (Og [x,y]))/\W.alloc (.cells #[.slice q x.length A,.slice h y.length z] 34)=w':=by
 have X:=(Fe W).alloc (.cells #[.slice q x.length A,.slice h y.length z] 34);have B:=alloc_at W (.cells #[.slice q x.length A,.slice h y.length z] 34);have G:=Za W (.cells #[.slice q x.length A,.slice h y.length z] 34);refine Ze9 _ O _ 2 [x,y] (by simp) (by simpa using I) ?_;intro k J
 match k,J with
 | 0,_=>exact⟨_,0,q,A,rfl,by rw[G];omega,cellAt B 0 _ rfl,Ya h1 X⟩
 | 1,_=>exact⟨_,0,h,z,rfl,by rw[G];omega,cellAt B 1 _ rfl,Ya h2 X⟩
theorem Ze8(W:World)(O:Nat->Prop)(h:Option Addr)(q:Nat)(x:List ByteArray)(h1:Ty.str.At W O h x)(A:total x<=4611686018427387904) :
  Calls Tryz.prog 45 #[.slice (some ⟨W.heap.size,0,none⟩) 1 1] (W.alloc (.cells #[.slice h x.length q] 34)) λe w'=>e=.returned (.bool (Og [x]))/\W.alloc (.cells #[.slice h x.length q] 34)=w':=by
 have X:=(Fe W).alloc (.cells #[.slice h x.length q] 34);have B:=alloc_at W (.cells #[.slice h x.length q] 34);have z:=Za W (.cells #[.slice h x.length q] 34);refine Ze9 _ O _ 1 [x] (by simp) (by simpa using A) ?_;intro k G
 match k,G with
 | 0,_=>exact⟨_,0,h,q,rfl,by rw[z];omega,cellAt B 0 _ rfl,Ya h1 X⟩
theorem Zj5{d:Zg}(h:Yb d=true):∀ s∈Uv d,s.size<=2147483647:=by
 unfold Yb at h;simp only[Bool.and_eq_true]at h;intro s q;unfold Uv at q;rcases List.mem_append.1 q with q|q
 ·obtain⟨x,z,rfl⟩:=List.mem_map.1 q;exact (Qm (List.all_eq_true.1 h.1.2 x z)).2.2
 ·obtain⟨x,z,rfl⟩:=List.mem_map.1 q;have:=List.all_eq_true.1 h.2.2.2.2.2.2.2.2 x z;unfold Wm at this;rw[Bool.and_eq_true]at this;simpa [Yl] using this.1
theorem Zi3{w:World}{B T:Nat}{A:Option Addr}{c:Nat}{xs:List ByteArray}(h:w.ownsRow B T 1 (.slice A xs.length c) xs.length (xs.map Value.string))(hl:xs.length<=1000)(J:∀ s∈xs,s.size<=2147483647):Ty.str.At w (λ_=>True) A xs:=by
 refine⟨Om,?_⟩;by_cases z:xs=[]
 ·exact Or.inl z
 ·have hp:0<xs.length:=List.length_pos_iff.2 z;obtain⟨g,c',e,I,_⟩:=V2 h 0 (by simpa using hp);simp only[Value.slice.injEq]at e;obtain⟨rfl,_,rfl⟩:=e;refine Or.inr ⟨g,0,rfl,trivial,?_,?_⟩
  ·rw[List.getElem?_map,Ge hp]at I;exact lt_of_cell I
  ·intro k q;obtain⟨M,c',e,G,_⟩:=V2 h k (by simpa using q);simp only[Value.slice.injEq]at e;obtain⟨e,_,_⟩:=e;cases e;refine⟨[.string xs[k]],⟨rfl,Nt (J _ (List.getElem_mem q)) (by decide)⟩,?_⟩;intro j K;have:j=0:=(by simpa using K);subst this;rw[List.getElem?_map,Ge q]at G;have L:0+k*Ty.str.sz+0=k:=by show 0+k*1+0=k;omega
   rw[L];exact G
theorem Hu(w:World)(O:Nat->Prop)(d:Zg)(cs:List Value)(h:tDict.R w O d cs)(U:Yb d=true):Calls Tryz.prog 15 #[.agg cs.toArray] w λe w'=>e=.returned (.bool (Xx d))/\Zf w w':=by
 have CS:Hid (∀ W,Zf w W->d.words.length<=1000->d.user.length<=1000->Calls Tryz.prog 55 #[.agg cs.toArray] W λe w'=>∃ v,e=.returned v/\w'.ownsRow (W.heap.size+1) 9 1 v (Uv d).length ((Uv d).map Value.string)/\Zf W w'):=λW f a b=>Da W O d cs (tDict.ext h f) a b
 obtain⟨A1,c1,A2,c2,A3,c3,A4,c4,A5,c5,A6,c6,A7,c7,A8,c8,rfl,h1,h2,h3,h4,h5,h6,h7,h8,_⟩:=Y4 h;have HW:=Hd h1.2.2;have HC:=Hd h2.2.2;have HU:=Hd h5.2.2
 have ae:d.words.length<=2147483647/\d.costs.length<=2147483647/\d.unknown.length<=2147483647:=by
  unfold Yb at U;simp only[Bool.and_eq_true]at U;exact⟨by simpa [Yl] using U.1.1,by simpa [Yl] using U.2.1,by simpa [Yl] using U.2.2.2.2.1.1⟩
 obtain⟨ak,am,al⟩:=ae
 have HF:Hid (∀ x∈d.words,Xk x=true):=by
  unfold Yb at U;simp only[Bool.and_eq_true]at U;exact λx hx=>List.all_eq_true.1 U.1.2 x hx
 have HG:Hid (∀ x∈d.unknown,∀ s∈x.contents,s.size<=2147483647):=by
  unfold Yb at U;simp only[Bool.and_eq_true]at U;exact λx hx=>Lz (List.all_eq_true.1 U.2.2.2.2.1.2 x hx)
 have HS:=Hd (Zj5 U);have B0:=alloc_at w (.cells #[.slice A1 d.words.length c1,.int .i64 d.rows,.int .i64 d.cols,.slice A2 d.costs.length c2,.slice A3 d.classes.length c3,.slice A4 d.chars.length c4,.slice A5 d.unknown.length c5,.slice A6 d.meta0.length c6,.slice A7 d.unkMeta.length c7,.bool d.hasUser,.slice A8 d.user.length c8] 30);have X0:=(Fe w).alloc (.cells #[.slice A1 d.words.length c1,.int .i64 d.rows,.int .i64 d.cols,.slice A2 d.costs.length c2,.slice A3 d.classes.length c3,.slice A4 d.chars.length c4,.slice A5 d.unknown.length c5,.slice A6 d.meta0.length c6,.slice A7 d.unkMeta.length c7,.bool d.hasUser,.slice A8 d.user.length c8] 30);have k0:=cellAt B0 0 (.slice A1 d.words.length c1) rfl;have L:=Hd (Ai1 X0 B0);clear h h1 h2 h3 h4 h5 h6 h7 h8 X0 B0 U;go_enter Tryz.func15,Tryz.ntmps15
 go_wp2_with fail
 generalize w.alloc _=w0 at *
 go_loopg [12] d.words.length (λg1 v12 wr=>∃ (i:Nat),v12=.int .i64 (i:Int)/\i<=d.words.length/\d.words.length<=i+g1/\Hid (Zf w0 wr/\(d.words.take i).all Vs=true))
 case atStart=>exact⟨0,rfl,Om,Om,Fl _,rfl⟩
 case round =>
  obtain⟨i,rfl,hi,hg,G⟩:=hrel;by_cases z:i<d.words.length
  ·have ad:(i:Int)<(d.words.length:Int):=Om;have ac:(0:Int)<=(i:Int):=Om;obtain⟨b,o,p,q,rfl,_,af,⟨Y,V,ep,_,_,hp⟩,⟨J,A,eq,_,_,hq⟩,aj,e0,e1,e2,e3,e4,e5⟩:=Ji HW.out i z;cases ep;cases eq;have M:=L.out.1.trans G.out.1 (λ_ _ e=>e);have q0:=M.cell e0 id;have q1:=M.cell e1 id;have q2:=M.cell e2 id;have q3:=M.cell e3 id;have q4:=M.cell e4 id;have q5:=M.cell e5 id;have HN:Hid (Vs d.words[i]=true->(d.words.take (i+1)).all Vs=true):=λe=>Wg Vs _ _ z G.out.2 e
   have X:Hid (Vs d.words[i]=false->Xx d=false):=λe=>by unfold Xx;rw[Vc Vs _ _ z e];rfl
   have HM:=Hd (Qm (HF.out _ (List.getElem_mem z)));have HP:=Hd (Ai1 (Ya hp M) (Ya hq M));clear M e0 e1 e2 e3 e4 e5 hp hq;generalize d.words[i]=x at *;by_cases a1:x.pos.length<=20
   ·by_cases a2:x.contents.length<=20
    ·have C:Hid (∀ o:Obj,Calls Tryz.prog 45 #[.slice (some ⟨wr.heap.size+1,0,none⟩) 2 2] ((wr.alloc o).alloc (.cells #[.slice Y x.pos.length V,.slice J x.contents.length A] 34)) λe w'=>e=.returned (.bool (Og [x.pos,x.contents]))/\(wr.alloc o).alloc (.cells #[.slice Y x.pos.length V,.slice J x.contents.length A] 34)=w'):=λo=>by
      have t0:=Zml (wr.alloc o) O _ _ V A _ _ (Ya HP.out.1 ((Fe wr).alloc o)) (Ya HP.out.2 ((Fe wr).alloc o)) (by
       have t1:=Tv x.pos HM.out.1;have t2:=Tv x.contents HM.out.2.1
       omega)
      rw[Za]at t0;exact t0
     have Z:Vs x=(Og [x.pos,x.contents]&&Ow x.weight):=by unfold Vs;simp[a1,a2]
     generalize Og [x.pos,x.contents]=fb at *;cases fb
     ·go_wp2_with (first|(go_at_call 45;refine (C.out _).mono ?_;rintro e w' ⟨rfl,rfl⟩)|fail)
      first|go_ret|go_ret2
      exact⟨Zh (X.out (by rw[Z];rfl)).symm,L.out.1.trans ((G.out.1.alloc (.cells #[.string x.surface,.int .i64 x.left,.int .i64 x.right,.int .i64 x.weight,.slice Y x.pos.length V,.slice J x.contents.length A] 53)).alloc (.cells #[.slice Y x.pos.length V,.slice J x.contents.length A] 34)) (λ_ _ e=>e)⟩
     ·by_cases a3:-20000<=x.weight
      ·by_cases a4:x.weight<=20000
       ·have ab:Vs x=true:=by rw[Z,Zch Om Om];rfl
        go_wp2_with (first|(go_at_call 45;refine (C.out _).mono ?_;rintro e w' ⟨rfl,rfl⟩)|fail)
        go_roundg (d.words.length-(i+1))
        case measure=>omega
        case rel=>exact⟨i+1,by go_num,Om,Om,(G.out.1.alloc (.cells #[.string x.surface,.int .i64 x.left,.int .i64 x.right,.int .i64 x.weight,.slice Y x.pos.length V,.slice J x.contents.length A] 53)).alloc (.cells #[.slice Y x.pos.length V,.slice J x.contents.length A] 34),HN.out ab⟩
       ·go_wp2_with (first|(go_at_call 45;refine (C.out _).mono ?_;rintro e w' ⟨rfl,rfl⟩)|fail)
        first|go_ret|go_ret2
        exact⟨Zh (X.out (by rw[Z,M9 Om];rfl)).symm,L.out.1.trans ((G.out.1.alloc (.cells #[.string x.surface,.int .i64 x.left,.int .i64 x.right,.int .i64 x.weight,.slice Y x.pos.length V,.slice J x.contents.length A] 53)).alloc (.cells #[.slice Y x.pos.length V,.slice J x.contents.length A] 34)) (λ_ _ e=>e)⟩
      ·go_wp2_with (first|(go_at_call 45;refine (C.out _).mono ?_;rintro e w' ⟨rfl,rfl⟩)|fail)
       first|go_ret|go_ret2
       exact⟨Zh (X.out (by rw[Z,M9 Om];rfl)).symm,L.out.1.trans ((G.out.1.alloc (.cells #[.string x.surface,.int .i64 x.left,.int .i64 x.right,.int .i64 x.weight,.slice Y x.pos.length V,.slice J x.contents.length A] 53)).alloc (.cells #[.slice Y x.pos.length V,.slice J x.contents.length A] 34)) (λ_ _ e=>e)⟩
    ·go_wp2_with fail
     first|go_ret|go_ret2
     exact⟨Zh (X.out (Bq Om)).symm,L.out.1.trans (G.out.1.alloc (.cells #[.string x.surface,.int .i64 x.left,.int .i64 x.right,.int .i64 x.weight,.slice Y x.pos.length V,.slice J x.contents.length A] 53)) (λ_ _ e=>e)⟩
   ·go_wp2_with fail
    first|go_ret|go_ret2
    exact⟨Zh (X.out (Bq Om)).symm,L.out.1.trans (G.out.1.alloc (.cells #[.string x.surface,.int .i64 x.left,.int .i64 x.right,.int .i64 x.weight,.slice Y x.pos.length V,.slice J x.contents.length A] 53)) (λ_ _ e=>e)⟩
  ·have aa:Hid (Zf w0 wr/\d.words.all Vs=true):=⟨G.out.1,by have:=G.out.2;rw[List.take_of_length_le Om]at this;exact this⟩;clear G hi hg;have k6:=cellAt (aa.out.1.heap L.out.2 id) 6 (.slice A5 d.unknown.length c5) rfl;go_wp2_with fail
   go_loopg [49] d.unknown.length (λg1 v49 wr=>∃ (i:Nat),v49=.int .i64 (i:Int)/\i<=d.unknown.length/\d.unknown.length<=i+g1/\Hid (Zf w0 wr/\(d.unknown.take i).all Tu=true))
   case atStart=>exact⟨0,rfl,Om,Om,aa.out.1,rfl⟩
   case round =>
    obtain⟨i,rfl,hi,hg,G⟩:=hrel;by_cases z:i<d.unknown.length
    ·have ad:(i:Int)<(d.unknown.length:Int):=Om;have ac:(0:Int)<=(i:Int):=Om;obtain⟨b,o,q,rfl,_,af,⟨J,A,eq,_,_,hq⟩,e0,e1,e2,e3,e4⟩:=Zh0 HU.out i z;cases eq;have M:=L.out.1.trans G.out.1 (λ_ _ e=>e);have q0:=M.cell e0 id;have q1:=M.cell e1 id;have q2:=M.cell e2 id;have q3:=M.cell e3 id;have q4:=M.cell e4 id;have HN:Hid (Tu d.unknown[i]=true->(d.unknown.take (i+1)).all Tu=true):=λe=>Wg Tu _ _ z G.out.2 e
     have X:Hid (Tu d.unknown[i]=false->Xx d=false):=λe=>by unfold Xx;rw[Vc Tu _ _ z e];simp
     have HM:=Hd (HG.out _ (List.getElem_mem z));have HP:=Hd (Ya hq M);clear M e0 e1 e2 e3 e4 hq;generalize d.unknown[i]=x at *;by_cases a2:x.contents.length<=20
     ·have C:Hid (∀ o:Obj,Calls Tryz.prog 45 #[.slice (some ⟨wr.heap.size+1,0,none⟩) 1 1] ((wr.alloc o).alloc (.cells #[.slice J x.contents.length A] 34)) λe w'=>e=.returned (.bool (Og [x.contents]))/\(wr.alloc o).alloc (.cells #[.slice J x.contents.length A] 34)=w'):=λo=>by
       have t0:=Ze8 (wr.alloc o) O _ A _ (Ya HP.out ((Fe wr).alloc o)) (by
        have t1:=Tv x.contents HM.out
        omega)
       rw[Za]at t0;exact t0
      have Z:Tu x=(Og [x.contents]&&Ow x.weight):=by unfold Tu;simp[a2]
      generalize Og [x.contents]=fb at *;cases fb
      ·go_wp2_with (first|(go_at_call 45;refine (C.out _).mono ?_;rintro e w' ⟨rfl,rfl⟩)|fail)
       first|go_ret|go_ret2
       exact⟨Zh (X.out (by rw[Z];rfl)).symm,L.out.1.trans ((G.out.1.alloc (.cells #[.int .i64 x.cls,.int .i64 x.left,.int .i64 x.right,.int .i64 x.weight,.slice J x.contents.length A] 36)).alloc (.cells #[.slice J x.contents.length A] 34)) (λ_ _ e=>e)⟩
      ·by_cases a3:-20000<=x.weight
       ·by_cases a4:x.weight<=20000
        ·have ab:Tu x=true:=by rw[Z,Zch Om Om];rfl
         go_wp2_with (first|(go_at_call 45;refine (C.out _).mono ?_;rintro e w' ⟨rfl,rfl⟩)|fail)
         go_roundg (d.unknown.length-(i+1))
         case measure=>omega
         case rel=>exact⟨i+1,by go_num,Om,Om,(G.out.1.alloc (.cells #[.int .i64 x.cls,.int .i64 x.left,.int .i64 x.right,.int .i64 x.weight,.slice J x.contents.length A] 36)).alloc (.cells #[.slice J x.contents.length A] 34),HN.out ab⟩
        ·go_wp2_with (first|(go_at_call 45;refine (C.out _).mono ?_;rintro e w' ⟨rfl,rfl⟩)|fail)
         first|go_ret|go_ret2
         exact⟨Zh (X.out (by rw[Z];rw[M9 Om];rfl)).symm,L.out.1.trans ((G.out.1.alloc (.cells #[.int .i64 x.cls,.int .i64 x.left,.int .i64 x.right,.int .i64 x.weight,.slice J x.contents.length A] 36)).alloc (.cells #[.slice J x.contents.length A] 34)) (λ_ _ e=>e)⟩
       ·go_wp2_with (first|(go_at_call 45;refine (C.out _).mono ?_;rintro e w' ⟨rfl,rfl⟩)|fail)
        first|go_ret|go_ret2
        exact⟨Zh (X.out (by rw[Z];rw[M9 Om];rfl)).symm,L.out.1.trans ((G.out.1.alloc (.cells #[.int .i64 x.cls,.int .i64 x.left,.int .i64 x.right,.int .i64 x.weight,.slice J x.contents.length A] 36)).alloc (.cells #[.slice J x.contents.length A] 34)) (λ_ _ e=>e)⟩
     ·go_wp2_with fail
      first|go_ret|go_ret2
      exact⟨Zh (X.out (Zlb Om)).symm,L.out.1.trans (G.out.1.alloc (.cells #[.int .i64 x.cls,.int .i64 x.left,.int .i64 x.right,.int .i64 x.weight,.slice J x.contents.length A] 36)) (λ_ _ e=>e)⟩
    ·have K:Hid (Zf w0 wr/\d.words.all Vs=true/\d.unknown.all Tu=true):=⟨G.out.1,aa.out.2,by have:=G.out.2;rw[List.take_of_length_le Om]at this;exact this⟩;clear G aa hi hg;have k3:=cellAt (K.out.1.heap L.out.2 id) 3 (.slice A2 d.costs.length c2) rfl;go_wp2_with fail
     go_loopg [78] d.costs.length (λg1 ag wq=>∃ (i:Nat),ag=.int .i64 (i:Int)/\i<=d.costs.length/\d.costs.length<=i+g1/\wq=wr/\Hid ((d.costs.take i).all Ow=true))
     case atStart=>exact⟨0,rfl,Om,Om,rfl,rfl⟩
     case round =>
      obtain⟨i,rfl,hi,hg,rfl,G⟩:=hrel;by_cases z:i<d.costs.length
      ·have ad:(i:Int)<(d.costs.length:Int):=Om;have ac:(0:Int)<=(i:Int):=Om;obtain⟨b,o,rfl,_,af,e0,_,_⟩:=Zdm HC.out i z;have q0:=(L.out.1.trans K.out.1 (λ_ _ e=>e)).cell e0 id;have HN:Hid (Ow d.costs[i]=true->(d.costs.take (i+1)).all Ow=true):=λe=>Wg Ow _ _ z G.out e
       have X:Hid (Ow d.costs[i]=false->Xx d=false):=λe=>by unfold Xx;rw[Vc Ow _ _ z e];simp
       clear e0;generalize d.costs[i]=x at *;by_cases a3:-20000<=x
       ·by_cases a4:x<=20000
        ·go_wp2_with fail
         go_roundg (d.costs.length-(i+1))
         case measure=>omega
         case rel=>exact⟨i+1,by go_num,Om,Om,rfl,HN.out (Zch Om Om)⟩
        ·go_wp2_with fail
         first|go_ret|go_ret2
         exact⟨Zh (X.out (M9 Om)).symm,L.out.1.trans K.out.1 (λ_ _ e=>e)⟩
       ·go_wp2_with fail
        first|go_ret|go_ret2
        exact⟨Zh (X.out (M9 Om)).symm,L.out.1.trans K.out.1 (λ_ _ e=>e)⟩
      ·have hA:Xx d=(decide (d.words.length<=60)&&(decide (d.unknown.length<=30)&&(decide (d.meta0.length<=20)&&(decide (d.unkMeta.length<=20)&&(decide (d.chars.length<=30)&&(decide (d.costs.length<=4096)&&(decide (d.user.length<=30)&&Og [Uv d]))))))):=by
        have:=G.out;rw[List.take_of_length_le Om]at this;unfold Xx;rw[K.out.2.1,K.out.2.2,this];rfl
       have HA:=Hd hA;have HE:Hid (Zf w wr):=L.out.1.trans K.out.1 (λ_ _ e=>e);have I:=K.out.1.heap L.out.2 id;clear hA G hi hg K;have k0:=cellAt I 0 (.slice A1 d.words.length c1) rfl;have k1:=cellAt I 1 (.int .i64 d.rows) rfl;have k2:=cellAt I 2 (.int .i64 d.cols) rfl;have k3:=cellAt I 3 (.slice A2 d.costs.length c2) rfl;have k4:=cellAt I 4 (.slice A3 d.classes.length c3) rfl;have k5:=cellAt I 5 (.slice A4 d.chars.length c4) rfl;have k6:=cellAt I 6 (.slice A5 d.unknown.length c5) rfl;have k7:=cellAt I 7 (.slice A6 d.meta0.length c6) rfl;have k8:=cellAt I 8 (.slice A7 d.unkMeta.length c7) rfl;have k9:=cellAt I 9 (.bool d.hasUser) rfl;have ai:=cellAt I 10 (.slice A8 d.user.length c8) rfl;clear I;by_cases b1:d.words.length<=60
       ·by_cases b2:d.unknown.length<=30
        ·by_cases b3:d.meta0.length<=20
         ·by_cases b4:d.unkMeta.length<=20
          ·by_cases b5:d.chars.length<=30
           ·by_cases b6:d.costs.length<=4096
            ·by_cases b7:d.user.length<=30
             ·rw[decide_eq_true b1,decide_eq_true b2,decide_eq_true b3,decide_eq_true b4,decide_eq_true b5,decide_eq_true b6,decide_eq_true b7]at HA;have ah:=Hd (CS.out _ HE.out Om Om);have HL:Hid ((Uv d).length<=1000):=by show _<=_;unfold Uv;rw[List.length_append,List.length_map,List.length_map];omega
              have HT:Hid (total (Uv d)<=4611686018427387904):=by
               have t1:=Tv (Uv d) HS.out;have t2:=HL.out;show _<=_;omega
              go_wp2_with (first
               | (go_at_call 55;refine ah.out.mono ?_;rintro e w2 ⟨v,rfl,ho,hx⟩;obtain⟨Av,cv,ev⟩:=Zm ho;subst ev;have HO:=Hd (Ai1 ho hx);clear ho hx)
               | (go_at_call 45;refine (Ze8 w2 (λ_=>True) Av cv (Uv d) (Zi3 HO.out.1 HL.out HS.out) HT.out).mono ?_;rintro e w' ⟨rfl,rfl⟩)
               | fail)
              first|go_ret|go_ret2
              exact⟨Zh (by rw[HA.out];rfl),HE.out.trans (HO.out.2.alloc _) (λ_ _ e=>e)⟩
             ·go_wp2_with fail
              first|go_ret|go_ret2
              exact⟨Zh (by rw[HA.out,decide_eq_false (p:=d.user.length<=30) Om];simp),HE.out⟩
            ·go_wp2_with fail
             first|go_ret|go_ret2
             exact⟨Zh (by rw[HA.out,decide_eq_false (p:=d.costs.length<=4096) Om];simp),HE.out⟩
           ·go_wp2_with fail
            first|go_ret|go_ret2
            exact⟨Zh (by rw[HA.out,decide_eq_false (p:=d.chars.length<=30) Om];simp),HE.out⟩
          ·go_wp2_with fail
           first|go_ret|go_ret2
           exact⟨Zh (by rw[HA.out,decide_eq_false (p:=d.unkMeta.length<=20) Om];simp),HE.out⟩
         ·go_wp2_with fail
          first|go_ret|go_ret2
          exact⟨Zh (by rw[HA.out,decide_eq_false (p:=d.meta0.length<=20) Om];simp),HE.out⟩
        ·go_wp2_with fail
         first|go_ret|go_ret2
         exact⟨Zh (by rw[HA.out,decide_eq_false (p:=d.unknown.length<=30) Om];simp),HE.out⟩
       ·go_wp2_with fail
        first|go_ret|go_ret2
        exact⟨Zh (by rw[HA.out,decide_eq_false (p:=d.words.length<=60) Om];simp),HE.out⟩
end Go.Proofs.YtlfoalomaofejaaGreatDoor
