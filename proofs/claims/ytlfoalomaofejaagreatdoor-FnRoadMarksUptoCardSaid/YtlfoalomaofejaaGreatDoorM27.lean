/- impl.tokenizerOf, of a diction -/
import Derived.Test.YtlfoalomaofejaaGreatDoorM22
import Derived.Test.YtlfoalomaofejaaGreatDoorM25
import Derived.Test.YtlfoalomaofejaaGreatDoorM26
import Derived.Defers
set_option linter.all false
set_option maxRecDepth 100000
set_option maxHeartbeats 4000000
namespace Go.Proofs.YtlfoalomaofejaaGreatDoor
section
open Go.RowKit DT SS TR LT
structure Zfk(d:Zg)(uk:Option (Nat×List ByteArray))(om:Bool)(tk kd H U:Nat)(w:World):Prop where
 cells:w.heap[tk]?=some (.cells (Y9 kd (uk.map λx=>⟨x.1,0,none⟩) om) 291 (0,0))
 dict:Zz d kd H U w
 user:∀ x,uk=some x->Ug x.1 x.2 H U w/\Y6 x.2
theorem Zi6:∃ i,Tryz.prog.info? 285=some i/\∃ z:Value,i.zero=some z/\i.size=1/\i.bytes=8/\z.cells.size=1:=by
 have h:(Tryz.prog.info? 285).map (λi=>(i.zero.map (λz=>z.cells.size),i.size,i.bytes))=some (some 1,1,8):=Kr
 cases hi:Tryz.prog.info? 285 with
 | none=>rw[hi]at h;cases h
 | some i =>
  rw[hi]at h;simp only[Option.map_some,Option.some.injEq,Prod.mk.injEq]at h;obtain⟨h1,h2,h3⟩:=h
  cases q:i.zero with
  | none=>rw[q]at h1;cases h1
  | some z =>
   rw[q]at h1;exact⟨i,rfl,z,q,h2,h3,by simpa using h1⟩
theorem Af(d:Zg)(cs:List Value)(O:Nat->Prop)(om:Bool)(w:World)(h:tDict.R w O d cs)(hT:U8 w)(hd:Hr d)(hr:Zl d=true)(hu:d.hasUser=false) :
  Calls Tryz.prog 122 #[.agg cs.toArray,.bool om] w λe w'=>∃ tk K H U,e=.returned (.tuple #[.pointer (some ⟨tk,0,none⟩),.int .i64 0])/\Zfk d none om tk K H U w'/\w.heap.size<=H/\Zf w w':=by
 have H:=Hd (Ai1 h hT);obtain⟨A1,c1,A2,c2,A3,c3,A4,c4,A5,c5,A6,c6,A7,c7,A8,c8,rfl,_⟩:=Y4 h;clear h hT;rw[hu]at H⊢;have Z:=Hd (Ai1 hd (Ai1 hr hu));clear hd hr hu
 cases om with
 | false =>
  go_enter Tryz.func122,Tryz.ntmps122
  go_wp2_with (first
   | (go_at_call 151;refine (Nj d _ O _ (tDict.ext H.out.1 ((Fl w).alloc _)) (H.out.2.ext ((Fl w).alloc _)) Z.out.1 Z.out.2.1).mono ?_;rintro e w1 ⟨K,U,rfl,G,A⟩;have b9:w1.cell? ⟨w.heap.size,9,none⟩=some (.bool false):=A.cell (Zb (alloc_at _ _) 9 _ rfl) id;have aa:=lt_of_cell b9;have X:=Hd (Ai1 G A);clear G A)
   | (go_at_call 156;refine (Re K 0 0 none [] (λ_=>Y9 K none false) _ rfl Om (λj h=>by simp at h) rfl (λj h=>by simp at h)).mono ?_;rintro e M ⟨rfl,G,A⟩;have V:=Hd (Ai1 G A);clear G A)
   | fail)
  first|go_ret|go_ret2
  exact⟨_,K,_,U,rfl,⟨V.out.1,X.out.1.keep V.out.2 (λ_ _ _=>id),λx e=>by cases e⟩,by rw[Za];omega,(((Fl w).alloc _).then X.out.2).then V.out.2⟩
 | true =>
  obtain⟨zi,ab,z,hz,ad,ac,W⟩:=Zi6;have HZ:=Hd (Ai1 hz W);clear hz W;go_enter Tryz.func122,Tryz.ntmps122
  go_upto_region 12 with (first
   | (go_at_call 151;refine (Nj d _ O _ (tDict.ext H.out.1 ((Fl w).alloc _)) (H.out.2.ext ((Fl w).alloc _)) Z.out.1 Z.out.2.1).mono ?_;rintro e w1 ⟨K,U,rfl,G,A⟩;have b9:w1.cell? ⟨w.heap.size,9,none⟩=some (.bool false):=A.cell (Zb (alloc_at _ _) 9 _ rfl) id;have aa:=lt_of_cell b9;have X:=Hd (Ai1 G A);clear G A)
   | (go_at_call 155;refine (Zax _).mono ?_;rintro e M ⟨rfl,rfl⟩)
   | (at_builtin;(refine wpList_append_own_at _ rfl _ _ 280 rfl M.heap.size 285 zi z 1 8 Tryz.underlying280 ab HZ.out.1 ad ac HZ.out.2 (by decide) (.slice none 0 0) 0 [] rfl (World.ownsRow_nil _ _ _ _) ⟨M.heap.size,0,none⟩ 1 1 [.func (.func 189) #[] #[]] rfl rfl (cell_one_new _ _ _) (by intro x G;rw[List.mem_singleton.1 G];rfl) (by unfold maxLen;omega) Om (by simp) ?_;intro v' Y q I L ae;obtain⟨Ao,co,hv⟩:=Zm q;subst hv;have HE:=Hd (Ai1 q I);clear q I L ae))
   | fail)
  have J:∀ j (h:j<[Value.func (.func 189) #[] #[]].length),∃ b o,Ao=some ⟨b,o,none⟩/\b<Y.heap.size/\Y.cell? ⟨b,o+j,none⟩=some ([Value.func (.func 189) #[] #[]][j]):=λj h=>by
   obtain rfl:j=0:=by simp at h;omega
   obtain⟨g,c,e,ec,_⟩:=V2 HE.out.1 0 Om;simp only[Value.slice.injEq]at e;obtain⟨rfl,_,rfl⟩:=e;exact⟨g,0,rfl,(lt_of_cell ec),ec⟩
  have CN:=Hd (Re K 1 co Ao [.func (.func 189) #[] #[]] (λj=>if j=0 then Y9 K none false else Y9 K none true) Y rfl Om J rfl (λj h=>by
   obtain rfl:j=0:=by simp at h;omega
   exact Zev _ _ _ _ _))
  clear J
  go_wp2_with (first
   | (go_at_call 156;refine CN.out.mono ?_;rintro e w4 ⟨rfl,G,A⟩;have V:=Hd (Ai1 G A);clear G A)
   | fail)
  first|go_ret|go_ret2
  have X3:Zf M Y:=((Fe M).alloc _).trans ((Fr.refl (λj=>(Value.slice none 0 0).ownBlock=some j) _).grown HE.out.2 (λk e _=>e)) (λj _ e=>by cases e);have X4:Zf M w4:=X3.then V.out.2;exact⟨_,K,_,U,rfl,⟨V.out.1,X.out.1.keep X4 (λ_ _ _=>id),λx e=>by cases e⟩,by rw[Za];omega,(((Fl w).alloc _).then X.out.2).then X4⟩
end
section
open Go.RowKit LT
def M7(w:World)(g n:Nat)(T:TypeId):Prop:=∃ h,w.heap[g]?=some (.cells h T (0,0))/\n<=h.size
theorem M7.keep{w w':World}{g n:Nat}{T:TypeId}{S:Nat->Prop}(h:M7 w g n T)(f:Fr S w w')(z:¬ S g):M7 w' g n T:=by
 obtain⟨q,h1,h2⟩:=h;exact⟨q,f.heap h1 z,h2⟩
theorem M7.set{w:World}{g n:Nat}{T:TypeId}(h:M7 w g n T)(b j:Nat)(v:Value):M7 (w.setCell ⟨b,j,none⟩ v) g n T:=by
 obtain⟨z,h1,h2⟩:=h;by_cases e:g=b
 ·subst e;exact⟨z.setIfInBounds j v,Yx h1 j v,by simpa using h2⟩
 ·refine⟨z,?_,h2⟩;rw[<- h1];exact Below.heap_setCell w ⟨b,j,none⟩ v g (λq=>e q)
theorem M7.cell{w:World}{g n:Nat}{T:TypeId}(h:M7 w g n T)(i:Nat)(hi:i<n):(∃ u,w.cell? ⟨g,i,none⟩=some u)/\w.frozen? ⟨g,i,none⟩=false:=by
 obtain⟨q,h1,h2⟩:=h;have hl:i<q.size:=Om
 exact⟨⟨q[i],by simp[World.cell?,h1,hl]⟩,by simp[World.frozen?,h1]⟩
def Ra(w:World)(v:Value)(S:Nat->Prop):Prop:=∃ A n c,v=.slice A n c/\n<=c/\c<=maxLen/\(A=none->n=0/\c=0)/\∀ a,A=some a->∃ g,a=⟨g,0,none⟩/\S g/\M7 w g n 301
theorem Ra.keep{w w':World}{v:Value}{S S':Nat->Prop}(h:Ra w v S)(f:Fr S' w w')(z:∀ g,S g->¬ S' g):Ra w' v S:=by
 obtain⟨A,n,c,e,h1,h2,h3,h4⟩:=h
 exact⟨A,n,c,e,h1,h2,h3,λa G=>by
  obtain⟨g,J,q,I⟩:=h4 a G
  exact⟨g,J,q,I.keep f (z g q)⟩⟩
theorem Ra.set{w:World}{v:Value}{S:Nat->Prop}(h:Ra w v S)(b j:Nat)(u:Value):Ra (w.setCell ⟨b,j,none⟩ u) v S:=by
 obtain⟨A,n,c,e,h1,h2,h3,h4⟩:=h
 exact⟨A,n,c,e,h1,h2,h3,λJ q=>by
  obtain⟨g,I,G,z⟩:=h4 J q
  exact⟨g,I,G,z.set b j u⟩⟩
theorem Ra.zero{w:World}{A:Option Addr}{n c:Nat}{S:Nat->Prop}(h:Ra w (.slice A n c) S):Ra w (.slice A 0 c) S:=by
 obtain⟨M,K,c',e,h1,h2,h3,h4⟩:=h;simp only[Value.slice.injEq]at e;obtain⟨rfl,rfl,rfl⟩:=e
 exact⟨A,0,c,rfl,Om,h2,λe=>⟨rfl,(h3 e).2⟩,λa z=>by
  obtain⟨g,J,I,q,G,L⟩:=h4 a z
  exact⟨g,J,I,q,G,Om⟩⟩
theorem Ra.own{w:World}{B n:Nat}{v:Value}{xs:List Value}{S:Nat->Prop}(h:w.ownsRow B 301 1 v n xs)(A:∀ j,v.ownBlock=some j->S j):Ra w v S:=by
 rcases id h.2 with ⟨rfl,rfl⟩|⟨g,cap,z,rfl,h1,h2,h3,h4,G,_⟩
 ·exact⟨none,0,0,rfl,Om,by unfold maxLen;omega,(λ_=>⟨rfl,rfl⟩),(λa q=>by cases q)⟩
 ·exact⟨_,n,cap,rfl,h3,h4,(λe=>by cases e),λa q=>by
   cases q
   exact⟨g,rfl,A g rfl,z,h2,Om⟩⟩
structure FQ(kl g R c:Nat)(s:ByteArray)(vo pd pu:Value)(S:Nat->Prop)(w0 w:World):Prop where
 la:w.heap[kl]?=some (.cells (Tl s vo g R c pd pu) 300 (0,0))
 out:Ra w vo (λj=>S j/\j≠kl/\j≠g)
 rows:∀ p,p<R->∃ v,w.cell? ⟨g,p,none⟩=some v/\w.frozen? ⟨g,p,none⟩=false/\Ra w v (λj=>S j/\j≠kl/\j≠g)
 skl:S kl
 sg:S g
 ne:g≠kl
 fr:Fr S w0 w
section
variable{kl g R c:Nat}{s:ByteArray}{vo pd pu:Value}{S:Nat->Prop}{w0 w w':World}
theorem FQ.ext(h:FQ kl g R c s vo pd pu S w0 w)(f:Zf w w'):FQ kl g R c s vo pd pu S w0 w' :=
 ⟨f.heap h.la id,h.out.keep f (λ_ _=>id),λp hp=>by
  obtain⟨v,a,b,d⟩:=h.rows p hp
  exact⟨v,f.cell a id,(f.frozen a id).trans b,d.keep f (λ_ _=>id)⟩,h.skl,h.sg,h.ne,h.fr.ext f⟩
theorem FQ.elem(h:FQ kl g R c s vo pd pu S w0 w)(b j:Nat)(u:Value)(z:S b/\b≠kl/\b≠g):FQ kl g R c s vo pd pu S w0 (w.setCell ⟨b,j,none⟩ u):=by
 have F:Fr (λj=>j=b) w (w.setCell ⟨b,j,none⟩ u):=(Fl w).setCell _ u (λ_=>rfl);refine⟨F.heap h.la (λe=>z.2.1 e.symm),h.out.set b j u,λp hp=>?_,h.skl,h.sg,h.ne,h.fr.setCell _ u (λ_=>z.1)⟩;obtain⟨v,q,A,d⟩:=h.rows p hp;exact⟨v,F.cell q (λe=>z.2.2 e.symm),(F.frozen q (λe=>z.2.2 e.symm)).trans A,d.set b j u⟩
theorem FQ.own(h:FQ kl g R c s vo pd pu S w0 w)(j:Nat)(u:Value)(I:ByteArray)(z G A:Value)(K:(Tl s vo g R c pd pu).setIfInBounds j u=Tl I z g R c G A)(J:Ra w z (λj=>S j/\j≠kl/\j≠g)):FQ kl g R c I z G A S w0 (w.setCell ⟨kl,j,none⟩ u):=by
 have F:Fr (λj=>j=kl) w (w.setCell ⟨kl,j,none⟩ u):=(Fl w).setCell _ u (λ_=>rfl);refine⟨by rw[<- K];exact Yx h.la j u,J.set _ _ u,λp hp=>?_,h.skl,h.sg,h.ne,h.fr.setCell _ u (λ_=>h.skl)⟩;obtain⟨v,q,b,d⟩:=h.rows p hp;exact⟨v,F.cell q h.ne,(F.frozen q h.ne).trans b,d.set _ _ u⟩
theorem FQ.row(h:FQ kl g R c s vo pd pu S w0 w)(p:Nat)(u:Value)(A:Ra w u (λj=>S j/\j≠kl/\j≠g)):FQ kl g R c s vo pd pu S w0 (w.setCell ⟨g,p,none⟩ u):=by
 have F:Fr (λj=>j=g) w (w.setCell ⟨g,p,none⟩ u):=(Fl w).setCell _ u (λ_=>rfl);refine⟨F.heap h.la (λe=>h.ne e.symm),h.out.set _ _ u,λq G=>?_,h.skl,h.sg,h.ne,h.fr.setCell _ u (λ_=>h.sg)⟩;obtain⟨v,a,b,d⟩:=h.rows q G;by_cases e:p=q
 ·subst e;exact⟨u,World.cell?_setCell_same' _ _ _ (by rw[a];rfl),by rw[World.frozen?_setCell];exact b,A.set _ _ u⟩
 ·have z:(⟨g,p,none⟩:Addr)≠⟨g,q,none⟩:=by intro r;simp only[Addr.mk.injEq,true_and,and_true]at r;exact e r
  exact⟨v,(World.cell?_setCell_other _ _ _ _ z).trans a,by rw[World.frozen?_setCell];exact b,d.set _ _ u⟩
end
theorem Znt(kl g R c:Nat)(s:ByteArray)(vo pd pu:Value)(S:Nat->Prop)(um:FrameMode)(w:World)(h:FQ kl g R c s vo pd pu S w w)(hR:R<=1000000)(hc:R<=c)(bc:c<=1000000) :
  CallsD Tryz.prog 158 #[.pointer (some ⟨kl,0,none⟩)] um w λe u' w'=>u'=um/\e=.returned (.tuple #[])/\Fr S w w':=by
 have mixed:Tryz.prog.follows .mixedOrders=true:=Kr
 have H:=Hd h;have k0:w.cell? ⟨kl,0,none⟩=some (.string s):=Zb h.la 0 _ rfl;have fk:=Zi h.la;have q:=lt_of_cell k0;clear h
 go_enter_d Tryz.func158,Tryz.ntmps158
 go_upto_region 1 with fail
 have H1:Hid (FQ kl g R c .empty vo pd pu S w (w.setCell ⟨kl,0,none⟩ (.string { data:=#[] }))):=H.out.own 0 _ .empty vo pd pu rfl H.out.out;obtain⟨A,n,M,ao,af,ai,aa,z⟩:=H1.out.out;subst ao;have X:(w.setCell ⟨kl,0,none⟩ (.string { data:=#[] })).cell? ⟨kl,1,none⟩=some (.slice A n M):=Zb H1.out.la 1 _ rfl;have q:=lt_of_cell X;have HA:=Hd (Ai1 aa (Ai1 af ai));clear k0 fk aa z af H;generalize w.setCell ⟨kl,0,none⟩ (.string { data:=#[] })=w1 at H1 X q⊢;have ad:n<=maxLen:=by have:=HA.out.2;omega
 unfold maxLen at ad;clear ai
 go_upto_block 0 with fail
 go_cut [] from 13 to 22 (λwx=>Hid (FQ kl g R c .empty (.slice A n M) pd pu S w wx))
 case first =>
  go_wp2_with fail
  go_loopg [13] n (λg1 al wr=>∃ i:Nat,al=.int .i64 (i:Int)/\i<=n/\n<=i+g1/\Hid (FQ kl g R c .empty (.slice A n M) pd pu S w wr))
  case atStart=>exact⟨0,rfl,Om,Om,H1⟩
  case round =>
   clear H1 X q;obtain⟨i,rfl,hi,av,G⟩:=hrel;have X:wr.cell? ⟨kl,1,none⟩=some (.slice A n M):=Zb G.out.la 1 _ rfl;have q:=lt_of_cell X;by_cases ab:i<n
   ·have aq:(i:Int)<(n:Int):=Om;have au:(0:Int)<=(i:Int):=Om;obtain⟨A',n',c',e,_,_,U,z⟩:=G.out.out;simp only[Value.slice.injEq]at e;obtain⟨rfl,rfl,rfl⟩:=e
    cases A with
    | none=>have:=(U rfl).1;omega
    | some a =>
     obtain⟨gv,rfl,hS,hB⟩:=z a rfl;obtain⟨⟨u,hu⟩,aw⟩:=hB.cell i ab;have am:=lt_of_cell hu;have HS:=Hd hS;clear U z hB hS;go_wp2_with fail
     go_roundg (n-(i+1))
     case measure=>omega
     case rel=>exact⟨i+1,by go_num,Om,Om,G.out.elem gv i _ HS.out⟩
   ·have ag:¬ (i:Int)<(n:Int):=Om;go_wp2_with fail
    go_meet
    case rel=>exact G
 case rest =>
 have H2:=hcut;clear H1 X q hcut;have X:wc.cell? ⟨kl,1,none⟩=some (.slice A n M):=Zb H2.out.la 1 _ rfl;have fk:=Zi H2.out.la;have q:=lt_of_cell X;have ax:=fk 1;clear fk;have bb:M<=9223372036854775807:=by have:=HA.out.2.2;unfold maxLen at this;omega
 go_step;refine wp_seq_k λK hK=>?_
 go_upto_region 7 with fail
 have H3:Hid (FQ kl g R c .empty (.slice A 0 M) pd pu S w (wc.setCell ⟨kl,1,none⟩ (.slice A 0 M))):=H2.out.own 1 _ .empty _ pd pu rfl H2.out.out.zero;clear X ax q H2 ad;generalize wc.setCell ⟨kl,1,none⟩ (.slice A 0 M)=w3 at H3⊢;have L:w3.cell? ⟨kl,2,none⟩=some (.slice (some ⟨g,0,none⟩) R c):=Zb H3.out.la 2 _ rfl;have q:=lt_of_cell L
 go_upto_block 2 with fail
 have bd:(0:Int)<=(R:Int):=Om
 go_cut [] from 36 to 74 (λwx=>Hid (FQ kl g R c .empty (.slice A 0 M) pd pu S w wx))
 case first =>
  go_wp2_with fail
  go_loopg [36] R (λg1 v36 wr=>∃ p:Nat,v36=.int .i64 (p:Int)/\p<=R/\R<=p+g1/\Hid (FQ kl g R c .empty (.slice A 0 M) pd pu S w wr))
  case atStart=>exact⟨0,rfl,Om,Om,H3⟩
  case round =>
   clear H3 L q;obtain⟨p,rfl,hp,av,G⟩:=hrel;by_cases ab:p<R
   ·have aq:(p:Int)<(R:Int):=Om;have az:(0:Int)<=(p:Int):=Om;obtain⟨v,I,Y,V,J,Z,rfl,ap,ah,hr⟩:=G.out.rows p ab;have ac:Hid (FQ kl g R c .empty (.slice A 0 M) pd pu S w wr/\wr.cell? ⟨g,p,none⟩=some (.slice V J Z)/\wr.frozen? ⟨g,p,none⟩=false/\Ra wr (.slice V J Z) (λj=>S j/\j≠kl/\j≠g)):=⟨G.out,I,Y,V,J,Z,rfl,ap,ah,hr⟩;have L:wr.cell? ⟨kl,2,none⟩=some (.slice (some ⟨g,0,none⟩) R c):=Zb G.out.la 2 _ rfl;have q:=lt_of_cell L;have lg:=lt_of_cell I;unfold maxLen at ah;clear Y hr G
    go_upto_block 4 with fail
    go_cut [] from 47 to 59 (λwx=>Hid (FQ kl g R c .empty (.slice A 0 M) pd pu S w wx/\wx.cell? ⟨g,p,none⟩=some (.slice V J Z)/\wx.frozen? ⟨g,p,none⟩=false/\Ra wx (.slice V J Z) (λj=>S j/\j≠kl/\j≠g)))
    case first =>
     go_wp2_with fail
     go_loopg [47] J (λg2 ak wr=>∃ i:Nat,ak=.int .i64 (i:Int)/\i<=J/\J<=i+g2/\Hid (FQ kl g R c .empty (.slice A 0 M) pd pu S w wr/\wr.cell? ⟨g,p,none⟩=some (.slice V J Z)/\wr.frozen? ⟨g,p,none⟩=false/\Ra wr (.slice V J Z) (λj=>S j/\j≠kl/\j≠g)))
     case atStart=>exact⟨0,rfl,Om,Om,ac⟩
     case round =>
      clear ac L q I lg;obtain⟨i,rfl,hi,a6,G⟩:=hrel;have L:wr.cell? ⟨kl,2,none⟩=some (.slice (some ⟨g,0,none⟩) R c):=Zb G.out.1.la 2 _ rfl;have q:=lt_of_cell L;have I:=G.out.2.1;have lg:=lt_of_cell I;by_cases ar:i<J
      ·have a1:(i:Int)<(J:Int):=Om;have au:(0:Int)<=(i:Int):=Om;obtain⟨A',n',c',e,_,_,U,z⟩:=G.out.2.2.2;simp only[Value.slice.injEq]at e;obtain⟨rfl,rfl,rfl⟩:=e
       cases V with
       | none=>have:=(U rfl).1;omega
       | some a =>
        obtain⟨gv,rfl,hS,hB⟩:=z a rfl;obtain⟨⟨u,hu⟩,aw⟩:=hB.cell i ar;have am:=lt_of_cell hu;have HS:=Hd hS;clear U z hB hS;go_wp2_with fail
        go_roundg (J-(i+1))
        case measure=>omega
        case rel =>
         have F:Fr (λj=>j=gv) wr (wr.setCell ⟨gv,i,none⟩ (.pointer none)):=(Fl wr).setCell _ _ (λ_=>rfl);have ae:¬ g=gv:=λe=>HS.out.2.2 e.symm
         exact⟨i+1,by go_num,Om,Om,G.out.1.elem gv i _ HS.out,F.cell G.out.2.1 ae,(F.frozen G.out.2.1 ae).trans G.out.2.2.1,G.out.2.2.2.set gv i _⟩
      ·have ag:¬ (i:Int)<(J:Int):=Om;go_wp2_with fail
       go_meet
       case rel=>exact G
    case rest =>
    have H5:=hcut;clear ac L q I lg hcut;have L:wc.cell? ⟨kl,2,none⟩=some (.slice (some ⟨g,0,none⟩) R c):=Zb H5.out.1.la 2 _ rfl;have q:=lt_of_cell L;have I:=H5.out.2.1;have Y:=H5.out.2.2.1;have lg:=lt_of_cell I;go_step;have aj:wc.drew.cell? ⟨kl,2,none⟩=some (.slice (some ⟨g,0,none⟩) R c)/\wc.drew.cell? ⟨g,p,none⟩=some (.slice V J Z)/\wc.drew.frozen? ⟨g,p,none⟩=false:=⟨L,I,Y⟩;refine Ye 14 15 #[false,false,false,false,false,false,false,false,false,false,false,false,false,false,false] (λW=>W.cell? ⟨kl,2,none⟩=some (.slice (some ⟨g,0,none⟩) R c)/\W.cell? ⟨g,p,none⟩=some (.slice V J Z)/\W.frozen? ⟨g,p,none⟩=false) mixed rfl rfl (aj) (λhS=>?_);refine WL.go [(0,60),(1,61),(2,62),(3,63),(4,64),(5,65),(6,66),(7,67),(8,68),(9,69),(10,70),(11,71),(12,72),(13,73)] ?_;iterate 14 (refine WL.tk (v:=?_) rfl rfl Kr (λ_ _ _ h=>h) (Or.inl ⟨Rf,?_⟩) (by assumption) ?_;rotate_left;(focus (intro w ay;(try obtain⟨s0,s1,s2⟩:=ay);go_simp;(try with_reducible rfl)));simp only[Act.put,Sa,Sb1,Sc])
    refine WZ.last rfl Kr Kr (λK hK=>?_);go_simp;refine hK.out _ _ ?_;clear hK K;go_wp2_with fail
    go_roundg (R-(p+1))
    case measure=>omega
    case rel=>exact⟨p+1,by go_num,Om,Om,(H5.out.1.ext ((Fl wc).drew)).row p _ (H5.out.2.2.2.zero.keep (S':=λ_=>False) ((Fl wc).drew) (λ_ _=>id))⟩
   ·have ag:¬ (p:Int)<(R:Int):=Om;go_wp2_with fail
    go_meet
    case rel=>exact G
 case rest =>
 have H4:=hcut;clear H3 L q hcut;have L:wc.cell? ⟨kl,2,none⟩=some (.slice (some ⟨g,0,none⟩) R c):=Zb H4.out.la 2 _ rfl;have k4:wc.cell? ⟨kl,4,none⟩=some pu:=Zb H4.out.la 4 _ rfl;have fk:=Zi H4.out.la;have a8:=fk 2;have a7:=fk 4;have q:=lt_of_cell L;clear fk;go_step;go_wp2_with fail
 go_end0
 exact⟨rfl,(H4.out.fr.setCell ⟨kl,2,none⟩ _ (λ_=>H4.out.skl)).setCell ⟨kl,4,none⟩ _ (λ_=>H4.out.skl)⟩
end
end Go.Proofs.YtlfoalomaofejaaGreatDoor
