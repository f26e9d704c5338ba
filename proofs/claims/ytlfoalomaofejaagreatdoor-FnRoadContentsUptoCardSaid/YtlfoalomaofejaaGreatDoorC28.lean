/- impl.tokenizerOf, of a diction -/
import Derived.Test.YtlfoalomaofejaaGreatDoorC23
import Derived.Test.YtlfoalomaofejaaGreatDoorC26
import Derived.Test.YtlfoalomaofejaaGreatDoorC27
import Derived.Defers
set_option linter.all false
set_option maxRecDepth 100000
set_option maxHeartbeats 4000000
namespace Go.Proofs.YtlfoalomaofejaaGreatDoor
section
open Go.RowKit DT SS TR LT
structure Zej(d:Zg)(uk:Option (Nat×List ByteArray))(om:Bool)(tk kd H U:Nat)(w:World):Prop where
 cells:w.heap[tk]?=some (.cells (Y3 kd (uk.map λx=>⟨x.1,0,none⟩) om) 291 (0,0))
 dict:Zx d kd H U w
 user:∀ x,uk=some x->V7 x.1 x.2 H U w/\Yz x.2
theorem Zh3:∃ i,Tryz.prog.info? 285=some i/\∃ z:Value,i.zero=some z/\i.size=1/\i.bytes=8/\z.cells.size=1:=by
 have h:(Tryz.prog.info? 285).map (λi=>(i.zero.map (λz=>z.cells.size),i.size,i.bytes))=some (some 1,1,8):=Kr
 cases hi:Tryz.prog.info? 285 with
 | none=>rw[hi]at h;cases h
 | some i =>
  rw[hi]at h;simp only[Option.map_some,Option.some.injEq,Prod.mk.injEq]at h;obtain⟨h1,h2,h3⟩:=h
  cases hz:i.zero with
  | none=>rw[hz]at h1;cases h1
  | some z =>
   rw[hz]at h1;exact⟨i,rfl,z,hz,h2,h3,by simpa using h1⟩
theorem Bd(d:Zg)(cs:List Value)(O:Nat->Prop)(om:Bool)(w:World)(h:tDict.R w O d cs)(hT:U8 w)(hd:I4 d)(hr:Zm d=true)(hu:d.hasUser=false) :
  Calls Tryz.prog 122 #[.agg cs.toArray,.bool om] w λe w'=>∃ tk kd H U,e=.returned (.tuple #[.pointer (some ⟨tk,0,none⟩),.int .i64 0])/\Zej d none om tk kd H U w'/\w.heap.size<=H/\Zf w w':=by
 have H:=Hd (Ai1 h hT);obtain⟨A1,c1,A2,c2,A3,c3,A4,c4,A5,c5,A6,c6,A7,c7,A8,c8,rfl,_⟩:=Yy h;clear h hT;rw[hu]at H⊢;have HD:=Hd (Ai1 hd (Ai1 hr hu));clear hd hr hu
 cases om with
 | false =>
  go_enter Tryz.func122,Tryz.ntmps122
  go_wp2_with (first
   | (go_at_call 151;refine (O7 d _ O _ (tDict.ext H.out.1 ((Fl w).alloc _)) (H.out.2.ext ((Fl w).alloc _)) HD.out.1 HD.out.2.1).mono ?_;rintro e w1 ⟨kd,U,rfl,hx,hy⟩;have b9:w1.cell? ⟨w.heap.size,9,none⟩=some (.bool false):=hy.cell (Zb (alloc_at _ _) 9 _ rfl) id;have lb9:=lt_of_cell b9;have HX:=Hd (Ai1 hx hy);clear hx hy)
   | (go_at_call 156;refine (Qa kd 0 0 none [] (λ_=>Y3 kd none false) _ rfl Om (λj h=>by simp at h) rfl (λj h=>by simp at h)).mono ?_;rintro e w2 ⟨rfl,hx,hy⟩;have HY:=Hd (Ai1 hx hy);clear hx hy)
   | fail)
  first|go_ret|go_ret2
  exact⟨_,kd,_,U,rfl,⟨HY.out.1,HX.out.1.keep HY.out.2 (λ_ _ _=>id),λx e=>by cases e⟩,by rw[Za];omega,(((Fl w).alloc _).then HX.out.2).then HY.out.2⟩
 | true =>
  obtain⟨zi,hzi,z,hz,hz2,hz3,hz4⟩:=Zh3;have HZ:=Hd (Ai1 hz hz4);clear hz hz4;go_enter Tryz.func122,Tryz.ntmps122
  go_upto_region 12 with (first
   | (go_at_call 151;refine (O7 d _ O _ (tDict.ext H.out.1 ((Fl w).alloc _)) (H.out.2.ext ((Fl w).alloc _)) HD.out.1 HD.out.2.1).mono ?_;rintro e w1 ⟨kd,U,rfl,hx,hy⟩;have b9:w1.cell? ⟨w.heap.size,9,none⟩=some (.bool false):=hy.cell (Zb (alloc_at _ _) 9 _ rfl) id;have lb9:=lt_of_cell b9;have HX:=Hd (Ai1 hx hy);clear hx hy)
   | (go_at_call 155;refine (Zad _).mono ?_;rintro e w2 ⟨rfl,rfl⟩)
   | (at_builtin;(refine wpList_append_own_at _ rfl _ _ 280 rfl w2.heap.size 285 zi z 1 8 Tryz.underlying280 hzi HZ.out.1 hz2 hz3 HZ.out.2 (by decide) (.slice none 0 0) 0 [] rfl (World.ownsRow_nil _ _ _ _) ⟨w2.heap.size,0,none⟩ 1 1 [.func (.func 189) #[] #[]] rfl rfl (cell_one_new _ _ _) (by intro x hx;rw[List.mem_singleton.1 hx];rfl) (by unfold maxLen;omega) Om (by simp) ?_;intro v' w3 hown' hgrow hnil' hat;obtain⟨Ao,co,hv⟩:=Zl hown';subst hv;have HE:=Hd (Ai1 hown' hgrow);clear hown' hgrow hnil' hat))
   | fail)
  have hcell:∀ j (h:j<[Value.func (.func 189) #[] #[]].length),∃ b o,Ao=some ⟨b,o,none⟩/\b<w3.heap.size/\w3.cell? ⟨b,o+j,none⟩=some ([Value.func (.func 189) #[] #[]][j]):=λj h=>by
   obtain rfl:j=0:=by simp at h;omega
   obtain⟨g,c,e,ec,_⟩:=Vb HE.out.1 0 Om;simp only[Value.slice.injEq]at e;obtain⟨rfl,_,rfl⟩:=e;exact⟨g,0,rfl,(lt_of_cell ec),ec⟩
  have CN:=Hd (Qa kd 1 co Ao [.func (.func 189) #[] #[]] (λj=>if j=0 then Y3 kd none false else Y3 kd none true) w3 rfl Om hcell rfl (λj h=>by
   obtain rfl:j=0:=by simp at h;omega
   exact Zdw _ _ _ _ _))
  clear hcell
  go_wp2_with (first
   | (go_at_call 156;refine CN.out.mono ?_;rintro e w4 ⟨rfl,hx,hy⟩;have HY:=Hd (Ai1 hx hy);clear hx hy)
   | fail)
  first|go_ret|go_ret2
  have X3:Zf w2 w3:=((Fe w2).alloc _).trans ((Fr.refl (λj=>(Value.slice none 0 0).ownBlock=some j) _).grown HE.out.2 (λk e _=>e)) (λj _ e=>by cases e);have X4:Zf w2 w4:=X3.then HY.out.2;exact⟨_,kd,_,U,rfl,⟨HY.out.1,HX.out.1.keep X4 (λ_ _ _=>id),λx e=>by cases e⟩,by rw[Za];omega,(((Fl w).alloc _).then HX.out.2).then X4⟩
end
section
open Go.RowKit LT
def Mp(w:World)(g n:Nat)(T:TypeId):Prop:=∃ cur,w.heap[g]?=some (.cells cur T (0,0))/\n<=cur.size
theorem Mp.keep{w w':World}{g n:Nat}{T:TypeId}{S:Nat->Prop}(h:Mp w g n T)(f:Fr S w w')(hs:¬ S g):Mp w' g n T:=by
 obtain⟨cur,h1,h2⟩:=h;exact⟨cur,f.heap h1 hs,h2⟩
theorem Mp.set{w:World}{g n:Nat}{T:TypeId}(h:Mp w g n T)(b j:Nat)(v:Value):Mp (w.setCell ⟨b,j,none⟩ v) g n T:=by
 obtain⟨cur,h1,h2⟩:=h;by_cases e:g=b
 ·subst e;exact⟨cur.setIfInBounds j v,Xf h1 j v,by simpa using h2⟩
 ·refine⟨cur,?_,h2⟩;rw[<- h1];exact Below.heap_setCell w ⟨b,j,none⟩ v g (λq=>e q)
theorem Mp.cell{w:World}{g n:Nat}{T:TypeId}(h:Mp w g n T)(i:Nat)(hi:i<n):(∃ u,w.cell? ⟨g,i,none⟩=some u)/\w.frozen? ⟨g,i,none⟩=false:=by
 obtain⟨cur,h1,h2⟩:=h;have hl:i<cur.size:=Om
 exact⟨⟨cur[i],by simp[World.cell?,h1,hl]⟩,by simp[World.frozen?,h1]⟩
def R6(w:World)(v:Value)(S:Nat->Prop):Prop:=∃ A n c,v=.slice A n c/\n<=c/\c<=maxLen/\(A=none->n=0/\c=0)/\∀ a,A=some a->∃ g,a=⟨g,0,none⟩/\S g/\Mp w g n 301
theorem R6.keep{w w':World}{v:Value}{S S':Nat->Prop}(h:R6 w v S)(f:Fr S' w w')(hs:∀ g,S g->¬ S' g):R6 w' v S:=by
 obtain⟨A,n,c,e,h1,h2,h3,h4⟩:=h
 exact⟨A,n,c,e,h1,h2,h3,λa ea=>by
  obtain⟨g,e1,e2,e3⟩:=h4 a ea
  exact⟨g,e1,e2,e3.keep f (hs g e2)⟩⟩
theorem R6.set{w:World}{v:Value}{S:Nat->Prop}(h:R6 w v S)(b j:Nat)(u:Value):R6 (w.setCell ⟨b,j,none⟩ u) v S:=by
 obtain⟨A,n,c,e,h1,h2,h3,h4⟩:=h
 exact⟨A,n,c,e,h1,h2,h3,λa' ea=>by
  obtain⟨g,e1,e2,e3⟩:=h4 a' ea
  exact⟨g,e1,e2,e3.set b j u⟩⟩
theorem R6.zero{w:World}{A:Option Addr}{n c:Nat}{S:Nat->Prop}(h:R6 w (.slice A n c) S):R6 w (.slice A 0 c) S:=by
 obtain⟨A',n',c',e,h1,h2,h3,h4⟩:=h;simp only[Value.slice.injEq]at e;obtain⟨rfl,rfl,rfl⟩:=e
 exact⟨A,0,c,rfl,Om,h2,λe=>⟨rfl,(h3 e).2⟩,λa ea=>by
  obtain⟨g,e1,e2,cur,e3,e4⟩:=h4 a ea
  exact⟨g,e1,e2,cur,e3,Om⟩⟩
theorem R6.own{w:World}{B n:Nat}{v:Value}{xs:List Value}{S:Nat->Prop}(h:w.ownsRow B 301 1 v n xs)(hs:∀ j,v.ownBlock=some j->S j):R6 w v S:=by
 rcases id h.2 with ⟨rfl,rfl⟩|⟨g,cap,cur,rfl,h1,h2,h3,h4,h5,_⟩
 ·exact⟨none,0,0,rfl,Om,by unfold maxLen;omega,(λ_=>⟨rfl,rfl⟩),(λa ea=>by cases ea)⟩
 ·exact⟨_,n,cap,rfl,h3,h4,(λe=>by cases e),λa ea=>by
   cases ea
   exact⟨g,rfl,hs g rfl,cur,h2,Om⟩⟩
structure FQ(kl g R c:Nat)(s:ByteArray)(vo pd pu:Value)(S:Nat->Prop)(w0 w:World):Prop where
 la:w.heap[kl]?=some (.cells (Tf s vo g R c pd pu) 300 (0,0))
 out:R6 w vo (λj=>S j/\j≠kl/\j≠g)
 rows:∀ p,p<R->∃ v,w.cell? ⟨g,p,none⟩=some v/\w.frozen? ⟨g,p,none⟩=false/\R6 w v (λj=>S j/\j≠kl/\j≠g)
 skl:S kl
 sg:S g
 ne:g≠kl
 fr:Fr S w0 w
section
variable{kl g R c:Nat}{s:ByteArray}{vo pd pu:Value}{S:Nat->Prop}{w0 w w':World}
theorem FQ.ext(h:FQ kl g R c s vo pd pu S w0 w)(f:Zf w w'):FQ kl g R c s vo pd pu S w0 w' :=
 ⟨f.heap h.la id,h.out.keep f (λ_ _=>id),λp hp=>by
  obtain⟨v,a,b,d⟩:=h.rows p hp
  exact⟨v,f.cell a id,(f.frozen a id).trans b,d.keep f (λ_ _=>id)⟩,h.skl,h.sg,h.ne,h.fr.ext f⟩
theorem FQ.elem(h:FQ kl g R c s vo pd pu S w0 w)(b j:Nat)(u:Value)(ha:S b/\b≠kl/\b≠g):FQ kl g R c s vo pd pu S w0 (w.setCell ⟨b,j,none⟩ u):=by
 have F:Fr (λj=>j=b) w (w.setCell ⟨b,j,none⟩ u):=(Fl w).setCell _ u (λ_=>rfl);refine⟨F.heap h.la (λe=>ha.2.1 e.symm),h.out.set b j u,λp hp=>?_,h.skl,h.sg,h.ne,h.fr.setCell _ u (λ_=>ha.1)⟩;obtain⟨v,q,b',d⟩:=h.rows p hp;exact⟨v,F.cell q (λe=>ha.2.2 e.symm),(F.frozen q (λe=>ha.2.2 e.symm)).trans b',d.set b j u⟩
theorem FQ.own(h:FQ kl g R c s vo pd pu S w0 w)(j:Nat)(u:Value)(s':ByteArray)(vo' pd' pu':Value)(he:(Tf s vo g R c pd pu).setIfInBounds j u=Tf s' vo' g R c pd' pu')(hv:R6 w vo' (λj=>S j/\j≠kl/\j≠g)):FQ kl g R c s' vo' pd' pu' S w0 (w.setCell ⟨kl,j,none⟩ u):=by
 have F:Fr (λj=>j=kl) w (w.setCell ⟨kl,j,none⟩ u):=(Fl w).setCell _ u (λ_=>rfl);refine⟨by rw[<- he];exact Xf h.la j u,hv.set _ _ u,λp hp=>?_,h.skl,h.sg,h.ne,h.fr.setCell _ u (λ_=>h.skl)⟩;obtain⟨v,q,b,d⟩:=h.rows p hp;exact⟨v,F.cell q h.ne,(F.frozen q h.ne).trans b,d.set _ _ u⟩
theorem FQ.row(h:FQ kl g R c s vo pd pu S w0 w)(p:Nat)(u:Value)(hu:R6 w u (λj=>S j/\j≠kl/\j≠g)):FQ kl g R c s vo pd pu S w0 (w.setCell ⟨g,p,none⟩ u):=by
 have F:Fr (λj=>j=g) w (w.setCell ⟨g,p,none⟩ u):=(Fl w).setCell _ u (λ_=>rfl);refine⟨F.heap h.la (λe=>h.ne e.symm),h.out.set _ _ u,λq hq=>?_,h.skl,h.sg,h.ne,h.fr.setCell _ u (λ_=>h.sg)⟩;obtain⟨v,a,b,d⟩:=h.rows q hq;by_cases e:p=q
 ·subst e;exact⟨u,World.cell?_setCell_same' _ _ _ (by rw[a];rfl),by rw[World.frozen?_setCell];exact b,hu.set _ _ u⟩
 ·have hne:(⟨g,p,none⟩:Addr)≠⟨g,q,none⟩:=by intro r;simp only[Addr.mk.injEq,true_and,and_true]at r;exact e r
  exact⟨v,(World.cell?_setCell_other _ _ _ _ hne).trans a,by rw[World.frozen?_setCell];exact b,d.set _ _ u⟩
end
theorem Zmr(kl g R c:Nat)(s:ByteArray)(vo pd pu:Value)(S:Nat->Prop)(um:FrameMode)(w:World)(h:FQ kl g R c s vo pd pu S w w)(hR:R<=1000000)(hc:R<=c)(hc2:c<=1000000) :
  CallsD Tryz.prog 158 #[.pointer (some ⟨kl,0,none⟩)] um w λe u' w'=>u'=um/\e=.returned (.tuple #[])/\Fr S w w':=by
 have mixed:Tryz.prog.follows .mixedOrders=true:=Kr
 have H:=Hd h;have k0:w.cell? ⟨kl,0,none⟩=some (.string s):=Zb h.la 0 _ rfl;have fk:=Zi h.la;have lkl:=lt_of_cell k0;clear h
 go_enter_d Tryz.func158,Tryz.ntmps158
 go_upto_region 1 with fail
 have H1:Hid (FQ kl g R c .empty vo pd pu S w (w.setCell ⟨kl,0,none⟩ (.string { data:=#[] }))):=H.out.own 0 _ .empty vo pd pu rfl H.out.out;obtain⟨A,n,co,hvo,hnc,hcm,hnil,hadr⟩:=H1.out.out;subst hvo;have k1:(w.setCell ⟨kl,0,none⟩ (.string { data:=#[] })).cell? ⟨kl,1,none⟩=some (.slice A n co):=Zb H1.out.la 1 _ rfl;have lkl:=lt_of_cell k1;have HA:=Hd (Ai1 hnil (Ai1 hnc hcm));clear k0 fk hnil hadr hnc H;generalize w.setCell ⟨kl,0,none⟩ (.string { data:=#[] })=w1 at H1 k1 lkl⊢;have hnm:n<=maxLen:=by have:=HA.out.2;omega
 unfold maxLen at hnm;clear hcm
 go_upto_block 0 with fail
 go_cut [] from 13 to 22 (λwx=>Hid (FQ kl g R c .empty (.slice A n co) pd pu S w wx))
 case first =>
  go_wp2_with fail
  go_loopg [13] n (λg1 v13 wr=>∃ i:Nat,v13=.int .i64 (i:Int)/\i<=n/\n<=i+g1/\Hid (FQ kl g R c .empty (.slice A n co) pd pu S w wr))
  case atStart=>exact⟨0,rfl,Om,Om,H1⟩
  case round =>
   clear H1 k1 lkl;obtain⟨i,rfl,hi,hg1,HF⟩:=hrel;have k1:wr.cell? ⟨kl,1,none⟩=some (.slice A n co):=Zb HF.out.la 1 _ rfl;have lkl:=lt_of_cell k1;by_cases hlt:i<n
   ·have hlz:(i:Int)<(n:Int):=Om;have hi0:(0:Int)<=(i:Int):=Om;obtain⟨A',n',c',e,_,_,hn0,hadr⟩:=HF.out.out;simp only[Value.slice.injEq]at e;obtain⟨rfl,rfl,rfl⟩:=e
    cases A with
    | none=>have:=(hn0 rfl).1;omega
    | some a =>
     obtain⟨gv,rfl,hS,hB⟩:=hadr a rfl;obtain⟨⟨u,hu⟩,hfu⟩:=hB.cell i hlt;have lgv:=lt_of_cell hu;have HS:=Hd hS;clear hn0 hadr hB hS;go_wp2_with fail
     go_roundg (n-(i+1))
     case measure=>omega
     case rel=>exact⟨i+1,by go_num,Om,Om,HF.out.elem gv i _ HS.out⟩
   ·have hge:¬ (i:Int)<(n:Int):=Om;go_wp2_with fail
    go_meet
    case rel=>exact HF
 case rest =>
 have H2:=hcut;clear H1 k1 lkl hcut;have k1:wc.cell? ⟨kl,1,none⟩=some (.slice A n co):=Zb H2.out.la 1 _ rfl;have fk:=Zi H2.out.la;have lkl:=lt_of_cell k1;have hfk:=fk 1;clear fk;have hco:co<=9223372036854775807:=by have:=HA.out.2.2;unfold maxLen at this;omega
 go_step;refine wp_seq_k λK hK=>?_
 go_upto_region 7 with fail
 have H3:Hid (FQ kl g R c .empty (.slice A 0 co) pd pu S w (wc.setCell ⟨kl,1,none⟩ (.slice A 0 co))):=H2.out.own 1 _ .empty _ pd pu rfl H2.out.out.zero;clear k1 hfk lkl H2 hnm;generalize wc.setCell ⟨kl,1,none⟩ (.slice A 0 co)=w3 at H3⊢;have k2:w3.cell? ⟨kl,2,none⟩=some (.slice (some ⟨g,0,none⟩) R c):=Zb H3.out.la 2 _ rfl;have lkl:=lt_of_cell k2
 go_upto_block 2 with fail
 have hRz:(0:Int)<=(R:Int):=Om
 go_cut [] from 36 to 74 (λwx=>Hid (FQ kl g R c .empty (.slice A 0 co) pd pu S w wx))
 case first =>
  go_wp2_with fail
  go_loopg [36] R (λg1 v36 wr=>∃ p:Nat,v36=.int .i64 (p:Int)/\p<=R/\R<=p+g1/\Hid (FQ kl g R c .empty (.slice A 0 co) pd pu S w wr))
  case atStart=>exact⟨0,rfl,Om,Om,H3⟩
  case round =>
   clear H3 k2 lkl;obtain⟨p,rfl,hp,hg1,HF⟩:=hrel;by_cases hlt:p<R
   ·have hlz:(p:Int)<(R:Int):=Om;have hp0:(0:Int)<=(p:Int):=Om;obtain⟨v,hgp,hfz,Ap,np,cp,rfl,hnp,hcp,hr⟩:=HF.out.rows p hlt;have HS0:Hid (FQ kl g R c .empty (.slice A 0 co) pd pu S w wr/\wr.cell? ⟨g,p,none⟩=some (.slice Ap np cp)/\wr.frozen? ⟨g,p,none⟩=false/\R6 wr (.slice Ap np cp) (λj=>S j/\j≠kl/\j≠g)):=⟨HF.out,hgp,hfz,Ap,np,cp,rfl,hnp,hcp,hr⟩;have k2:wr.cell? ⟨kl,2,none⟩=some (.slice (some ⟨g,0,none⟩) R c):=Zb HF.out.la 2 _ rfl;have lkl:=lt_of_cell k2;have lg:=lt_of_cell hgp;unfold maxLen at hcp;clear hfz hr HF
    go_upto_block 4 with fail
    go_cut [] from 47 to 59 (λwx=>Hid (FQ kl g R c .empty (.slice A 0 co) pd pu S w wx/\wx.cell? ⟨g,p,none⟩=some (.slice Ap np cp)/\wx.frozen? ⟨g,p,none⟩=false/\R6 wx (.slice Ap np cp) (λj=>S j/\j≠kl/\j≠g)))
    case first =>
     go_wp2_with fail
     go_loopg [47] np (λg2 v47 wr=>∃ i:Nat,v47=.int .i64 (i:Int)/\i<=np/\np<=i+g2/\Hid (FQ kl g R c .empty (.slice A 0 co) pd pu S w wr/\wr.cell? ⟨g,p,none⟩=some (.slice Ap np cp)/\wr.frozen? ⟨g,p,none⟩=false/\R6 wr (.slice Ap np cp) (λj=>S j/\j≠kl/\j≠g)))
     case atStart=>exact⟨0,rfl,Om,Om,HS0⟩
     case round =>
      clear HS0 k2 lkl hgp lg;obtain⟨i,rfl,hi,hg2,HF⟩:=hrel;have k2:wr.cell? ⟨kl,2,none⟩=some (.slice (some ⟨g,0,none⟩) R c):=Zb HF.out.1.la 2 _ rfl;have lkl:=lt_of_cell k2;have hgp:=HF.out.2.1;have lg:=lt_of_cell hgp;by_cases hil:i<np
      ·have hiz:(i:Int)<(np:Int):=Om;have hi0:(0:Int)<=(i:Int):=Om;obtain⟨A',n',c',e,_,_,hn0,hadr⟩:=HF.out.2.2.2;simp only[Value.slice.injEq]at e;obtain⟨rfl,rfl,rfl⟩:=e
       cases Ap with
       | none=>have:=(hn0 rfl).1;omega
       | some a =>
        obtain⟨gv,rfl,hS,hB⟩:=hadr a rfl;obtain⟨⟨u,hu⟩,hfu⟩:=hB.cell i hil;have lgv:=lt_of_cell hu;have HS:=Hd hS;clear hn0 hadr hB hS;go_wp2_with fail
        go_roundg (np-(i+1))
        case measure=>omega
        case rel =>
         have F:Fr (λj=>j=gv) wr (wr.setCell ⟨gv,i,none⟩ (.pointer none)):=(Fl wr).setCell _ _ (λ_=>rfl);have hne:¬ g=gv:=λe=>HS.out.2.2 e.symm
         exact⟨i+1,by go_num,Om,Om,HF.out.1.elem gv i _ HS.out,F.cell HF.out.2.1 hne,(F.frozen HF.out.2.1 hne).trans HF.out.2.2.1,HF.out.2.2.2.set gv i _⟩
      ·have hge:¬ (i:Int)<(np:Int):=Om;go_wp2_with fail
       go_meet
       case rel=>exact HF
    case rest =>
    have H5:=hcut;clear HS0 k2 lkl hgp lg hcut;have k2:wc.cell? ⟨kl,2,none⟩=some (.slice (some ⟨g,0,none⟩) R c):=Zb H5.out.1.la 2 _ rfl;have lkl:=lt_of_cell k2;have hgp:=H5.out.2.1;have hfz:=H5.out.2.2.1;have lg:=lt_of_cell hgp;go_step;have hS15:wc.drew.cell? ⟨kl,2,none⟩=some (.slice (some ⟨g,0,none⟩) R c)/\wc.drew.cell? ⟨g,p,none⟩=some (.slice Ap np cp)/\wc.drew.frozen? ⟨g,p,none⟩=false:=⟨k2,hgp,hfz⟩;refine Ya 14 15 #[false,false,false,false,false,false,false,false,false,false,false,false,false,false,false] (λW=>W.cell? ⟨kl,2,none⟩=some (.slice (some ⟨g,0,none⟩) R c)/\W.cell? ⟨g,p,none⟩=some (.slice Ap np cp)/\W.frozen? ⟨g,p,none⟩=false) mixed rfl rfl (hS15) (λhS=>?_);refine WL.go [(0,60),(1,61),(2,62),(3,63),(4,64),(5,65),(6,66),(7,67),(8,68),(9,69),(10,70),(11,71),(12,72),(13,73)] ?_;iterate 14 (refine WL.tk (v:=?_) rfl rfl Kr (λ_ _ _ h=>h) (Or.inl ⟨Rf,?_⟩) (by assumption) ?_;rotate_left;(focus (intro w hSw;(try obtain⟨s0,s1,s2⟩:=hSw);go_simp;(try with_reducible rfl)));simp only[Act.put,Sa,Sb1,Sc])
    refine WZ.last rfl Kr Kr (λK hK=>?_);go_simp;refine hK.out _ _ ?_;clear hK K;go_wp2_with fail
    go_roundg (R-(p+1))
    case measure=>omega
    case rel=>exact⟨p+1,by go_num,Om,Om,(H5.out.1.ext ((Fl wc).drew)).row p _ (H5.out.2.2.2.zero.keep (S':=λ_=>False) ((Fl wc).drew) (λ_ _=>id))⟩
   ·have hge:¬ (p:Int)<(R:Int):=Om;go_wp2_with fail
    go_meet
    case rel=>exact HF
 case rest =>
 have H4:=hcut;clear H3 k2 lkl hcut;have k2:wc.cell? ⟨kl,2,none⟩=some (.slice (some ⟨g,0,none⟩) R c):=Zb H4.out.la 2 _ rfl;have k4:wc.cell? ⟨kl,4,none⟩=some pu:=Zb H4.out.la 4 _ rfl;have fk:=Zi H4.out.la;have hf2:=fk 2;have hf4:=fk 4;have lkl:=lt_of_cell k2;clear fk;go_step;go_wp2_with fail
 go_end0
 exact⟨rfl,(H4.out.fr.setCell ⟨kl,2,none⟩ _ (λ_=>H4.out.skl)).setCell ⟨kl,4,none⟩ _ (λ_=>H4.out.skl)⟩
end
end Go.Proofs.YtlfoalomaofejaaGreatDoor
