/- lattice.Free, as a call that is deferred: it turns the lattice's own blocks alone. -/
import Derived.Test.YtoliamijgmifkaaGreatDoorF29
import Derived.Defers
set_option linter.all false
set_option maxRecDepth 100000
set_option maxHeartbeats 4000000
namespace Go.Proofs.YtoliamijgmifkaaGreatDoor
open Go.RowKit LT
def Blk(w:World)(g n:Nat)(T:TypeId):Prop:=∃ cur,w.heap[g]? = some (.cells cur T (0,0))/\n<=cur.size
theorem Blk.keep{w w':World}{g n:Nat}{T:TypeId}{S:Nat->Prop}(h:Blk w g n T)(f:Fr S w w')(hs:¬ S g):Blk w' g n T:=by
 obtain⟨cur,h1,h2⟩:=h;exact⟨cur,f.heap h1 hs,h2⟩
theorem Blk.set{w:World}{g n:Nat}{T:TypeId}(h:Blk w g n T)(b j:Nat)(v:Value):Blk (w.setCell ⟨b,j,none⟩ v) g n T:=by
 obtain⟨cur,h1,h2⟩:=h;by_cases e:g=b
 ·subst e;exact⟨cur.setIfInBounds j v,Xk h1 j v,by simpa using h2⟩
 ·refine⟨cur,?_,h2⟩;rw[<- h1];exact Below.heap_setCell w ⟨b,j,none⟩ v g (fun q=>e q)
theorem Blk.cell{w:World}{g n:Nat}{T:TypeId}(h:Blk w g n T)(i:Nat)(hi:i<n):(∃ u,w.cell? ⟨g,i,none⟩=some u)/\w.frozen? ⟨g,i,none⟩=false:=by
 obtain⟨cur,h1,h2⟩:=h;have hl:i<cur.size:=by omega
 exact⟨⟨cur[i],by simp[World.cell?,h1,hl]⟩,by simp[World.frozen?,h1]⟩
def Sz(w:World)(v:Value)(S:Nat->Prop):Prop:=∃ A n c,v = .slice A n c/\n<=c/\c<=maxLen/\(A=none->n=0/\c=0)/\∀ a,A=some a->∃ g,a=⟨g,0,none⟩/\S g/\Blk w g n 131
theorem Sz.keep{w w':World}{v:Value}{S S':Nat->Prop}(h:Sz w v S)(f:Fr S' w w')(hs:∀ g,S g->¬ S' g):Sz w' v S:=by
 obtain⟨A,n,c,e,h1,h2,h3,h4⟩:=h
 exact⟨A,n,c,e,h1,h2,h3,fun a ea=>by
  obtain⟨g,e1,e2,e3⟩:=h4 a ea
  exact⟨g,e1,e2,e3.keep f (hs g e2)⟩⟩
theorem Sz.set{w:World}{v:Value}{S:Nat->Prop}(h:Sz w v S)(b j:Nat)(u:Value):Sz (w.setCell ⟨b,j,none⟩ u) v S:=by
 obtain⟨A,n,c,e,h1,h2,h3,h4⟩:=h
 exact⟨A,n,c,e,h1,h2,h3,fun a' ea=>by
  obtain⟨g,e1,e2,e3⟩:=h4 a' ea
  exact⟨g,e1,e2,e3.set b j u⟩⟩
theorem Sz.zero{w:World}{A:Option Addr}{n c:Nat}{S:Nat->Prop}(h:Sz w (.slice A n c) S):Sz w (.slice A 0 c) S:=by
 obtain⟨A',n',c',e,h1,h2,h3,h4⟩:=h;simp only[Value.slice.injEq]at e;obtain⟨rfl,rfl,rfl⟩:=e
 exact⟨A,0,c,rfl,by omega,h2,fun e=>⟨rfl,(h3 e).2⟩,fun a ea=>by
  obtain⟨g,e1,e2,cur,e3,e4⟩:=h4 a ea
  exact⟨g,e1,e2,cur,e3,by omega⟩⟩
theorem Sz.own{w:World}{B n:Nat}{v:Value}{xs:List Value}{S:Nat->Prop}(h:w.ownsRow B 131 1 v n xs)(hs:∀ j,v.ownBlock=some j->S j):Sz w v S:=by
 rcases id h.2 with ⟨rfl,rfl⟩|⟨g,cap,cur,rfl,h1,h2,h3,h4,h5,_⟩
 ·exact⟨none,0,0,rfl,by omega,by unfold maxLen;omega,(fun _=>⟨rfl,rfl⟩),(fun a ea=>by cases ea)⟩
 ·exact⟨_,n,cap,rfl,h3,h4,(fun e=>by cases e),fun a ea=>by
   cases ea
   exact⟨g,rfl,hs g rfl,cur,h2,by omega⟩⟩
structure FQ(kl g R c:Nat)(s:ByteArray)(vo pd pu:Value)(S:Nat->Prop)(w0 w:World):Prop where
 la:w.heap[kl]? = some (.cells (U3 s vo g R c pd pu) 136 (0,0))
 out:Sz w vo (fun j=>S j/\j≠kl/\j≠g)
 rows:∀ p,p<R->∃ v,w.cell? ⟨g,p,none⟩=some v/\w.frozen? ⟨g,p,none⟩=false/\Sz w v (fun j=>S j/\j≠kl/\j≠g)
 skl:S kl
 sg:S g
 ne:g≠kl
 fr:Fr S w0 w
section
variable{kl g R c:Nat}{s:ByteArray}{vo pd pu:Value}{S:Nat->Prop}{w0 w w':World}
theorem FQ.ext(h:FQ kl g R c s vo pd pu S w0 w)(f:Ext w w'):FQ kl g R c s vo pd pu S w0 w' :=
 ⟨f.heap h.la id,h.out.keep f (fun _ _=>id),fun p hp=>by
  obtain⟨v,a,b,d⟩:=h.rows p hp
  exact⟨v,f.cell a id,(f.frozen a id).trans b,d.keep f (fun _ _=>id)⟩,h.skl,h.sg,h.ne,h.fr.ext f⟩
theorem FQ.elem(h:FQ kl g R c s vo pd pu S w0 w)(b j:Nat)(u:Value)(ha:S b/\b≠kl/\b≠g):FQ kl g R c s vo pd pu S w0 (w.setCell ⟨b,j,none⟩ u):=by
 have F:Fr (fun j=>j=b) w (w.setCell ⟨b,j,none⟩ u):=(Fr.refl _ w).setCell _ u (fun _=>rfl);refine⟨F.heap h.la (fun e=>ha.2.1 e.symm),h.out.set b j u,fun p hp=>?_,h.skl,h.sg,h.ne,h.fr.setCell _ u (fun _=>ha.1)⟩;obtain⟨v,q,b',d⟩:=h.rows p hp;exact⟨v,F.cell q (fun e=>ha.2.2 e.symm),(F.frozen q (fun e=>ha.2.2 e.symm)).trans b',d.set b j u⟩
theorem FQ.own(h:FQ kl g R c s vo pd pu S w0 w)(j:Nat)(u:Value)(s':ByteArray)(vo' pd' pu':Value)(he:(U3 s vo g R c pd pu).setIfInBounds j u=U3 s' vo' g R c pd' pu')(hv:Sz w vo' (fun j=>S j/\j≠kl/\j≠g)):FQ kl g R c s' vo' pd' pu' S w0 (w.setCell ⟨kl,j,none⟩ u):=by
 have F:Fr (fun j=>j=kl) w (w.setCell ⟨kl,j,none⟩ u):=(Fr.refl _ w).setCell _ u (fun _=>rfl);refine⟨by rw[<- he];exact Xk h.la j u,hv.set _ _ u,fun p hp=>?_,h.skl,h.sg,h.ne,h.fr.setCell _ u (fun _=>h.skl)⟩;obtain⟨v,q,b,d⟩:=h.rows p hp;exact⟨v,F.cell q h.ne,(F.frozen q h.ne).trans b,d.set _ _ u⟩
theorem FQ.row(h:FQ kl g R c s vo pd pu S w0 w)(p:Nat)(u:Value)(hu:Sz w u (fun j=>S j/\j≠kl/\j≠g)):FQ kl g R c s vo pd pu S w0 (w.setCell ⟨g,p,none⟩ u):=by
 have F:Fr (fun j=>j=g) w (w.setCell ⟨g,p,none⟩ u):=(Fr.refl _ w).setCell _ u (fun _=>rfl);refine⟨F.heap h.la (fun e=>h.ne e.symm),h.out.set _ _ u,fun q hq=>?_,h.skl,h.sg,h.ne,h.fr.setCell _ u (fun _=>h.sg)⟩;obtain⟨v,a,b,d⟩:=h.rows q hq;by_cases e:p=q
 ·subst e;exact⟨u,World.cell?_setCell_same' _ _ _ (by rw[a];rfl),by rw[World.frozen?_setCell];exact b,hu.set _ _ u⟩
 ·have hne:(⟨g,p,none⟩:Addr)≠⟨g,q,none⟩:=by intro r;simp only[Addr.mk.injEq,true_and,and_true]at r;exact e r
  exact⟨v,(World.cell?_setCell_other _ _ _ _ hne).trans a,by rw[World.frozen?_setCell];exact b,d.set _ _ u⟩
end
theorem Zjw(kl g R c:Nat)(s:ByteArray)(vo pd pu:Value)(S:Nat->Prop)(um:FrameMode)(w:World)(h:FQ kl g R c s vo pd pu S w w)(hR:R<=1000000)(hc:R<=c)(hc2:c<=1000000) :
  CallsD Tryz.prog 115 #[.pointer (some ⟨kl,0,none⟩)] um w fun e u' w'=>u'=um/\e = .returned (.tuple #[])/\Fr S w w':=by
 have mixed:Tryz.prog.follows .mixedOrders=true:=by kernel_rfl
 have H:=Lib.hid h;have k0:w.cell? ⟨kl,0,none⟩=some (.string s):=Zb h.la 0 _ rfl;have fk:=Zh h.la;have lkl:=lt_of_cell k0;clear h
 go_enter_d Tryz.func115,Tryz.ntmps115
 go_upto_region 1 with fail
 have H1:Hid (FQ kl g R c .empty vo pd pu S w (w.setCell ⟨kl,0,none⟩ (.string { data:=#[] }))):=H.out.own 0 _ .empty vo pd pu rfl H.out.out;obtain⟨A,n,co,hvo,hnc,hcm,hnil,hadr⟩:=H1.out.out;subst hvo;have k1:(w.setCell ⟨kl,0,none⟩ (.string { data:=#[] })).cell? ⟨kl,1,none⟩=some (.slice A n co):=Zb H1.out.la 1 _ rfl;have lkl:=lt_of_cell k1;have HA:=Lib.hid (And.intro hnil (And.intro hnc hcm));clear k0 fk hnil hadr hnc H;generalize w.setCell ⟨kl,0,none⟩ (.string { data:=#[] })=w1 at H1 k1 lkl⊢;have hnm:n<=maxLen:=by have:=HA.out.2;omega
 unfold maxLen at hnm;clear hcm
 go_upto_block 0 with fail
 go_cut [] from 13 to 22 (fun wx=>Hid (FQ kl g R c .empty (.slice A n co) pd pu S w wx))
 case first =>
  go_wp2_with fail
  go_loopg [13] n (fun g1 v13 wr=>∃ i:Nat,v13 = .int .i64 (i:Int)/\i<=n/\n<=i+g1/\Hid (FQ kl g R c .empty (.slice A n co) pd pu S w wr))
  case atStart=>exact⟨0,rfl,by omega,by omega,H1⟩
  case round =>
   clear H1 k1 lkl;obtain⟨i,rfl,hi,hg1,HF⟩:=hrel;have k1:wr.cell? ⟨kl,1,none⟩=some (.slice A n co):=Zb HF.out.la 1 _ rfl;have lkl:=lt_of_cell k1;by_cases hlt:i<n
   ·have hlz:(i:Int)<(n:Int):=by omega
    have hi0:(0:Int)<=(i:Int):=by omega
    obtain⟨A',n',c',e,_,_,hn0,hadr⟩:=HF.out.out;simp only[Value.slice.injEq]at e;obtain⟨rfl,rfl,rfl⟩:=e
    cases A with
    | none=>have:=(hn0 rfl).1;omega
    | some a =>
     obtain⟨gv,rfl,hS,hB⟩:=hadr a rfl;obtain⟨⟨u,hu⟩,hfu⟩:=hB.cell i hlt;have lgv:=lt_of_cell hu;have HS:=Lib.hid hS;clear hn0 hadr hB hS;go_wp2_with fail
     go_roundg (n-(i+1))
     case measure=>omega
     case rel=>exact⟨i+1,by go_num,by omega,by omega,HF.out.elem gv i _ HS.out⟩
   ·have hge:¬ (i:Int)<(n:Int):=by omega
    go_wp2_with fail
    go_meet
    case rel=>exact HF
 case rest =>
 have H2:=hcut;clear H1 k1 lkl hcut;have k1:wc.cell? ⟨kl,1,none⟩=some (.slice A n co):=Zb H2.out.la 1 _ rfl;have fk:=Zh H2.out.la;have lkl:=lt_of_cell k1;have hfk:=fk 1;clear fk;have hco:co<=9223372036854775807:=by have:=HA.out.2.2;unfold maxLen at this;omega
 go_step;refine wp_seq_k fun K hK=>?_
 go_upto_region 7 with fail
 have H3:Hid (FQ kl g R c .empty (.slice A 0 co) pd pu S w (wc.setCell ⟨kl,1,none⟩ (.slice A 0 co))):=H2.out.own 1 _ .empty _ pd pu rfl H2.out.out.zero;clear k1 hfk lkl H2 hnm;generalize wc.setCell ⟨kl,1,none⟩ (.slice A 0 co)=w3 at H3⊢;have k2:w3.cell? ⟨kl,2,none⟩=some (.slice (some ⟨g,0,none⟩) R c):=Zb H3.out.la 2 _ rfl;have lkl:=lt_of_cell k2
 go_upto_block 2 with fail
 have hRz:(0:Int)<=(R:Int):=by omega
 go_cut [] from 36 to 74 (fun wx=>Hid (FQ kl g R c .empty (.slice A 0 co) pd pu S w wx))
 case first =>
  go_wp2_with fail
  go_loopg [36] R (fun g1 v36 wr=>∃ p:Nat,v36 = .int .i64 (p:Int)/\p<=R/\R<=p+g1/\Hid (FQ kl g R c .empty (.slice A 0 co) pd pu S w wr))
  case atStart=>exact⟨0,rfl,by omega,by omega,H3⟩
  case round =>
   clear H3 k2 lkl;obtain⟨p,rfl,hp,hg1,HF⟩:=hrel;by_cases hlt:p<R
   ·have hlz:(p:Int)<(R:Int):=by omega
    have hp0:(0:Int)<=(p:Int):=by omega
    obtain⟨v,hgp,hfz,Ap,np,cp,rfl,hnp,hcp,hr⟩:=HF.out.rows p hlt;have HS0:Hid (FQ kl g R c .empty (.slice A 0 co) pd pu S w wr/\wr.cell? ⟨g,p,none⟩=some (.slice Ap np cp)/\wr.frozen? ⟨g,p,none⟩=false/\Sz wr (.slice Ap np cp) (fun j=>S j/\j≠kl/\j≠g)):=⟨HF.out,hgp,hfz,Ap,np,cp,rfl,hnp,hcp,hr⟩;have k2:wr.cell? ⟨kl,2,none⟩=some (.slice (some ⟨g,0,none⟩) R c):=Zb HF.out.la 2 _ rfl;have lkl:=lt_of_cell k2;have lg:=lt_of_cell hgp;unfold maxLen at hcp;clear hfz hr HF
    go_upto_block 4 with fail
    go_cut [] from 47 to 59 (fun wx=>Hid (FQ kl g R c .empty (.slice A 0 co) pd pu S w wx/\wx.cell? ⟨g,p,none⟩=some (.slice Ap np cp)/\wx.frozen? ⟨g,p,none⟩=false/\Sz wx (.slice Ap np cp) (fun j=>S j/\j≠kl/\j≠g)))
    case first =>
     go_wp2_with fail
     go_loopg [47] np (fun g2 v47 wr=>∃ i:Nat,v47 = .int .i64 (i:Int)/\i<=np/\np<=i+g2/\Hid (FQ kl g R c .empty (.slice A 0 co) pd pu S w wr/\wr.cell? ⟨g,p,none⟩=some (.slice Ap np cp)/\wr.frozen? ⟨g,p,none⟩=false/\Sz wr (.slice Ap np cp) (fun j=>S j/\j≠kl/\j≠g)))
     case atStart=>exact⟨0,rfl,by omega,by omega,HS0⟩
     case round =>
      clear HS0 k2 lkl hgp lg;obtain⟨i,rfl,hi,hg2,HF⟩:=hrel;have k2:wr.cell? ⟨kl,2,none⟩=some (.slice (some ⟨g,0,none⟩) R c):=Zb HF.out.1.la 2 _ rfl;have lkl:=lt_of_cell k2;have hgp:=HF.out.2.1;have lg:=lt_of_cell hgp;by_cases hil:i<np
      ·have hiz:(i:Int)<(np:Int):=by omega
       have hi0:(0:Int)<=(i:Int):=by omega
       obtain⟨A',n',c',e,_,_,hn0,hadr⟩:=HF.out.2.2.2;simp only[Value.slice.injEq]at e;obtain⟨rfl,rfl,rfl⟩:=e
       cases Ap with
       | none=>have:=(hn0 rfl).1;omega
       | some a =>
        obtain⟨gv,rfl,hS,hB⟩:=hadr a rfl;obtain⟨⟨u,hu⟩,hfu⟩:=hB.cell i hil;have lgv:=lt_of_cell hu;have HS:=Lib.hid hS;clear hn0 hadr hB hS;go_wp2_with fail
        go_roundg (np-(i+1))
        case measure=>omega
        case rel =>
         have F:Fr (fun j=>j=gv) wr (wr.setCell ⟨gv,i,none⟩ (.pointer none)):=(Fr.refl _ wr).setCell _ _ (fun _=>rfl);have hne:¬ g=gv:=fun e=>HS.out.2.2 e.symm
         exact⟨i+1,by go_num,by omega,by omega,HF.out.1.elem gv i _ HS.out,F.cell HF.out.2.1 hne,(F.frozen HF.out.2.1 hne).trans HF.out.2.2.1,HF.out.2.2.2.set gv i _⟩
      ·have hge:¬ (i:Int)<(np:Int):=by omega
       go_wp2_with fail
       go_meet
       case rel=>exact HF
    case rest =>
    have H5:=hcut;clear HS0 k2 lkl hgp lg hcut;have k2:wc.cell? ⟨kl,2,none⟩=some (.slice (some ⟨g,0,none⟩) R c):=Zb H5.out.1.la 2 _ rfl;have lkl:=lt_of_cell k2;have hgp:=H5.out.2.1;have hfz:=H5.out.2.2.1;have lg:=lt_of_cell hgp;go_step;have hS15:wc.drew.cell? ⟨kl,2,none⟩=some (.slice (some ⟨g,0,none⟩) R c)/\wc.drew.cell? ⟨g,p,none⟩=some (.slice Ap np cp)/\wc.drew.frozen? ⟨g,p,none⟩=false:=⟨k2,hgp,hfz⟩;refine Yd 14 15 #[false,false,false,false,false,false,false,false,false,false,false,false,false,false,false] (fun W=>W.cell? ⟨kl,2,none⟩=some (.slice (some ⟨g,0,none⟩) R c)/\W.cell? ⟨g,p,none⟩=some (.slice Ap np cp)/\W.frozen? ⟨g,p,none⟩=false) mixed rfl rfl (hS15) (fun hS=>?_);refine WL.go [(0,60),(1,61),(2,62),(3,63),(4,64),(5,65),(6,66),(7,67),(8,68),(9,69),(10,70),(11,71),(12,72),(13,73)] ?_;iterate 14 (refine WL.tk (v:=?_) rfl rfl (by kernel_rfl) (fun _ _ _ h=>h) (Or.inl ⟨by rfl,?_⟩) (by assumption) ?_;rotate_left;(focus (intro w hSw;(try obtain⟨s0,s1,s2⟩:=hSw);go_simp;(try with_reducible rfl)));simp only[Act.put,List.setIfInBounds_toArray,List.set_cons_zero,List.set_cons_succ])
    refine WZ.last rfl (by kernel_rfl) (by kernel_rfl) (fun K hK=>?_);go_simp;refine hK.out _ _ ?_;clear hK K;go_wp2_with fail
    go_roundg (R-(p+1))
    case measure=>omega
    case rel=>exact⟨p+1,by go_num,by omega,by omega,(H5.out.1.ext ((Fr.refl _ wc).drew)).row p _ (H5.out.2.2.2.zero.keep (S':=fun _=>False) ((Fr.refl _ wc).drew) (fun _ _=>id))⟩
   ·have hge:¬ (p:Int)<(R:Int):=by omega
    go_wp2_with fail
    go_meet
    case rel=>exact HF
 case rest =>
 have H4:=hcut;clear H3 k2 lkl hcut;have k2:wc.cell? ⟨kl,2,none⟩=some (.slice (some ⟨g,0,none⟩) R c):=Zb H4.out.la 2 _ rfl;have k4:wc.cell? ⟨kl,4,none⟩=some pu:=Zb H4.out.la 4 _ rfl;have fk:=Zh H4.out.la;have hf2:=fk 2;have hf4:=fk 4;have lkl:=lt_of_cell k2;clear fk;go_step;go_wp2_with fail
 go_end0
 exact⟨rfl,(H4.out.fr.setCell ⟨kl,2,none⟩ _ (fun _=>H4.out.skl)).setCell ⟨kl,4,none⟩ _ (fun _=>H4.out.skl)⟩
end Go.Proofs.YtoliamijgmifkaaGreatDoor
