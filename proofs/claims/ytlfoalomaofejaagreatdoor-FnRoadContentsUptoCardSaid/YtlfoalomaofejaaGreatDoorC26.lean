/- lattice.Build. -/
import Derived.Test.YtlfoalomaofejaaGreatDoorC25
set_option linter.all false
set_option maxRecDepth 100000
set_option maxHeartbeats 4000000
namespace Go.Proofs.YtlfoalomaofejaaGreatDoor
open Go.RowKit DT SS TR LT
theorem Zf1:(Tryz.prog.info? 297).map (λi=>(i.zero,i.size,i.bytes))=some (some (.slice none 0 0),1,24):=Kr
theorem Zfw{w:World}{g R:Nat}(h:w.rowIs g 297 R (λ_=>.slice none 0 0)):Ym w g R (λ_=>.slice none 0 0) [] (λ_=>0) (λ_=>0) (λ_=>none) where
 cell p hp:=⟨h.cell hp,h.frozen p⟩
 row p hp:=by rw[show row [] p=[] from rfl];exact World.ownsRow_nil _ _ _ _
 apart p q _ _ _ j e:=by cases e
 offg p _ e:=by cases e
 node m hm:=by simp at hm
 noff m hm:=by simp at hm
 inj m k hm:=by simp at hm
theorem Df(d:Zg)(hr:Zm d=true)(hd:I4 d)(uk:Option (Nat×List ByteArray))(kd H U kl:Nat)(s:ByteArray)(hs:Rd s)(hsz:s.size<=300)(hG:Tn U)(w:World)
  (hkl:w.heap[kl]?=some (.cells #[.string .empty,.slice none 0 0,.slice none 0 0,.pointer (some ⟨kd,0,none⟩),.pointer (uk.map λx=>⟨x.1,0,none⟩)] 300 (0,0))) (hU:U<=kl) (hD:Zx d kd H U w) (hus:∀ x,uk=some x->V7 x.1 x.2 H U w/\Yz x.2) (hT:U8 w) :
  Calls Tryz.prog 159 #[.pointer (some ⟨kl,0,none⟩),.string s] w λe w'=>e=.returned (.tuple #[])/\∃ g vs nb,Ym w' g (Lib.runeCount s+2) vs (lat (Z2 d (uk.map (·.2))) s) nb (λ_=>0) (λ_=>none) /\
   w'.heap[kl]?=some (.cells #[.string s,.slice none 0 0,.slice (some ⟨g,0,none⟩) (Lib.runeCount s+2) (Lib.runeCount s+2),.pointer (some ⟨kd,0,none⟩),.pointer (uk.map λx=>⟨x.1,0,none⟩)] 300 (0,0)) /\
   (∀ j,Yt g (Lib.runeCount s+2) vs j->w.heap.size<=j/\j≠kl)/\(∀ m,m<(lat (Z2 d (uk.map (·.2))) s).length->w.heap.size<=nb m)/\Fr (λj=>j=kl\/w.heap.size<=j) w w':=by
 have mixed:Tryz.prog.follows .mixedOrders=true:=Kr
 have HK:=Hd hkl;have H0:=Hd (Ai1 hD (Ai1 hus hT));obtain⟨rc,hrc⟩:∃ rc,rc=Lib.runeCount s:=⟨_,rfl⟩;have hrcs:rc<=s.size:=by rw[hrc];exact Lib.runeCount_le s
 have C1:=λW=>R3 s W Om
 rw[<- hrc]at C1;have HRC:=Hd hrc;have lkl:kl<w.heap.size:=(Gs1.1 hkl).1;have lkl0:=lkl;clear hrc hkl hD hus hT;go_enter Tryz.func159,Tryz.ntmps159
 go_upto_region 2 with (first|(go_at_call 162;refine (C1 _).mono ?_;rintro e w1 ⟨rfl,hx⟩;have HX:=Hd hx;clear hx)|fail)
 obtain⟨bl,hbl⟩:∃ b,b=w.heap.size:=⟨_,rfl⟩;obtain⟨bi,hbi⟩:∃ b,b=w.heap.size+1:=⟨_,rfl⟩;have X1:Hid (Zf w w1):=(((Fl w).alloc _).alloc _).then HX.out
 have la:w1.cell? ⟨bl,0,none⟩=some (.pointer (some ⟨kl,0,none⟩)):=by
  rw[hbl];exact HX.out.cell (((Fe _).alloc _).cell (Yb w #[.pointer (some ⟨kl,0,none⟩)] 292 0 _ rfl) id) id
 have inp:w1.cell? ⟨bi,0,none⟩=some (.string s):=by
  rw[hbi];have:=Yb (w.alloc (.cells #[.pointer (some ⟨kl,0,none⟩)] 292)) #[.string s] 9 0 (.string s) rfl;rw[Za]at this;exact HX.out.cell this id
 rw[<- hbi,<- hbl];have HB:=Hd (Ai1 hbl hbi);have hk1:=X1.out.heap HK.out id;have z0:w1.cell? ⟨kl,0,none⟩=some (.string .empty):=Zb hk1 0 _ rfl;have z2:w1.cell? ⟨kl,2,none⟩=some (.slice none 0 0):=Zb hk1 2 _ rfl;have f1:=Zi hk1;have l1:=lt_of_cell z0;have nbl:bl≠kl:=Om
 have nbi:bi≠kl:=Om
 have nbb:bl≠bi:=Om
 clear hk1 hbl hbi HX;have hlt0:(0:Int)<(rc:Int)+2:=Om
 go_upto_region 4 with fail
 have F1:Hid (Fr (λj=>j=kl) w (w1.setCell ⟨kl,0,none⟩ (.string s))):=(X1.out.mono (S':=λj=>j=kl) (λ_ _ e=>e.elim)).setCell ⟨kl,0,none⟩ _ (λ_=>rfl);have G1:Fr (λj=>j=kl) w1 (w1.setCell ⟨kl,0,none⟩ (.string s)):=(Fl w1).setCell ⟨kl,0,none⟩ _ (λ_=>rfl);have la:=G1.cell la nbl;have inp:=G1.cell inp nbi;have hk1:=Yk (X1.out.heap HK.out id) 0 (.string s);have z2:(w1.setCell ⟨kl,0,none⟩ (.string s)).cell? ⟨kl,2,none⟩=some (.slice none 0 0):=Zb hk1 2 _ rfl;have f1:=Zi hk1;have l1:=lt_of_cell z2;have HK1:=Hd hk1;clear z0 hk1 G1 X1;generalize w1.setCell _ _=w2 at F1 la inp z2 f1 l1 HK1⊢;have hRz:((rc+2:Nat):Int)=(rc:Int)+2:=Om
 have hmk:∀ W:World,(Instr.makeSlice 298 (.int .i64 0) (.int .i64 ((rc:Int)+2))).run Tryz.prog W=.ok (.slice (some ⟨W.heap.size,0,none⟩) 0 (rc+2)) (W.alloc (.cells (madeCells #[.slice none 0 0] (rc+2)) 297)):=λW=>by
  obtain⟨ii,hii,hi0,hi1,hi2⟩:=info_parts Zf1;rw[<- hRz];have:=run_make (P:=Tryz.prog) W 298 297 ii _ Tryz.underlying298 hii hi0 .i64 .i64 0 (rc+2:Nat) Om Om (by rw[hi2];omega) Om;have e:((rc:Int)+2).toNat=rc+2:=Om
  rw[hi1]at this;simpa [Value.cells,e] using this
 have lbl:=lt_of_cell la;have hla:w2.drew.cell? ⟨bl,0,none⟩=some (.pointer (some ⟨kl,0,none⟩)):=la;have wrc:IntKind.i64.wrap ((rc:Int)+2)=(rc:Int)+2:=by rw[IntKind.wrap_i64];omega
 refine Ya 6 7 #[false,false,false,false,false,false,false] (λW=>W.cell? ⟨bl,0,none⟩=some (.pointer (some ⟨kl,0,none⟩))) mixed rfl rfl (hla) (λhS=>?_);refine WL.go [(0,36),(1,37),(2,38)] ?_;iterate 3 (refine WL.tk (v:=?_) rfl rfl Kr (λ_ _ _ h=>h) (Or.inl ⟨Rf,?_⟩) (by assumption) ?_;rotate_left;(focus (intro w hSw;(try obtain s0:=hSw);go_simp;(try with_reducible rfl)));simp only[Act.put,Sa,Sb1,Sc])
 refine WZ.one (i:=3) rfl Kr (by decide) (λK hK=>?_);go_simp;refine hK.out _ _ (((Fe w2).drew.alloc _).cell la id) (λhSr4_3=>?_);clear hK K;try simp only[Act.put,Sa,Sb1,Sc]
 refine WL.go [(4,40),(5,41)] ?_;iterate 2 (refine WL.tk (v:=?_) rfl rfl Kr (λ_ _ _ h=>h) (Or.inl ⟨Rf,?_⟩) (by assumption) ?_;rotate_left;(focus (intro w hSw;(try obtain s0:=hSw);go_simp;(try with_reducible rfl)));simp only[Act.put,Sa,Sb1,Sc])
 refine WZ.last rfl Kr Kr (λK hK=>?_);go_simp;refine hK.out _ _ ?_;clear hK K;have G2:Fr (λj=>j=kl) w2 (((w2.setCell ⟨kl,2,none⟩ (.slice (some ⟨w2.heap.size,0,none⟩) 0 (rc+2))).alloc (.cells (madeCells #[.slice none 0 0] (rc+2)) 297)).drew):=(((Fr.refl (λj=>j=kl) w2).setCell ⟨kl,2,none⟩ _ (λ_=>rfl)).alloc _).drew;obtain⟨g,hg⟩:∃ g,g=w2.heap.size:=⟨_,rfl⟩;have inp0:=inp;have la:=G2.cell la nbl;have inp:=G2.cell inp nbi
 have hk2:(((w2.setCell ⟨kl,2,none⟩ (.slice (some ⟨w2.heap.size,0,none⟩) 0 (rc+2))).alloc (.cells (madeCells #[.slice none 0 0] (rc+2)) 297)).drew).heap[kl]?=some (.cells #[.string s,.slice none 0 0,.slice (some ⟨g,0,none⟩) 0 (rc+2),.pointer (some ⟨kd,0,none⟩),.pointer (uk.map λx=>⟨x.1,0,none⟩)] 300 (0,0)):=by
  rw[hg];have:=Yk HK1.out 2 (.slice (some ⟨w2.heap.size,0,none⟩) 0 (rc+2));exact ((Fe (w2.setCell ⟨kl,2,none⟩ (.slice (some ⟨w2.heap.size,0,none⟩) 0 (rc+2)))).alloc (.cells (madeCells #[.slice none 0 0] (rc+2)) 297)).heap this id
 have hg2:(((w2.setCell ⟨kl,2,none⟩ (.slice (some ⟨w2.heap.size,0,none⟩) 0 (rc+2))).alloc (.cells (madeCells #[.slice none 0 0] (rc+2)) 297)).drew).rowIs g 297 (rc+2) (λ_=>.slice none 0 0):=by
  have:=World.rowIs_made (w2.setCell ⟨kl,2,none⟩ (.slice (some ⟨w2.heap.size,0,none⟩) 0 (rc+2))) (.slice none 0 0) (rc+2) 297;rw[hg];have e:(w2.setCell ⟨kl,2,none⟩ (.slice (some ⟨w2.heap.size,0,none⟩) 0 (rc+2))).heap.size=w2.heap.size:=by simp[World.setCell]
  rw[e]at this;exact this.drew
 have F2:=Hd (F1.out.then G2);have ngl:g≠bl:=by have:=lbl;simp only at this;omega
 have ngi:g≠bi:=by have:=lt_of_cell inp0;simp only at this;omega
 have lg:w.heap.size<=g:=by rw[hg];exact F1.out.size
 rw[<- hg]at la inp hk2 hg2 F2⊢;have HK2:=Hd hk2;have HG2:=Hd hg2;have z2:_:=Zb hk2 2 _ rfl;have f2:=Zi hk2;clear inp0 G2 hk2 hg2 hg hmk f1 l1 hla HK1 F1 hlt0;generalize World.drew (World.alloc (World.setCell w2 _ _) _)=w3 at la inp z2 f2 F2 HK2 HG2⊢;go_wp2_with fail
 have lbl:=lt_of_cell la;have lkl:=lt_of_cell z2;have hS0:w3.drew.cell? ⟨bl,0,none⟩=some (.pointer (some ⟨kl,0,none⟩))/\w3.drew.cell? ⟨kl,2,none⟩=some (.slice (some ⟨g,0,none⟩) 0 (rc+2)):=⟨la,z2⟩;have h1:(0:Int)<=(rc:Int)+2:=Om
 have h2:(rc:Int)+2<=((rc+2:Nat):Int):=Om
 have h3:((rc:Int)+2).toNat=rc+2:=Om
 refine Ya 10 11 #[false,false,false,false,false,false,false,false,false,false,false] (λW=>W.cell? ⟨bl,0,none⟩=some (.pointer (some ⟨kl,0,none⟩))/\W.cell? ⟨kl,2,none⟩=some (.slice (some ⟨g,0,none⟩) 0 (rc+2))) mixed rfl rfl (hS0) (λhS=>?_);refine WL.go [(0,42),(1,43),(2,44),(3,45),(4,46),(5,47),(6,48),(7,49),(8,50),(9,51)] ?_;iterate 10 (refine WL.tk (v:=?_) rfl rfl Kr (λ_ _ _ h=>h) (Or.inl ⟨Rf,?_⟩) (by assumption) ?_;rotate_left;(focus (intro w hSw;(try obtain⟨s0,s1⟩:=hSw);go_simp;(try with_reducible rfl)));simp only[Act.put,Sa,Sb1,Sc])
 refine WZ.last rfl Kr Kr (λK hK=>?_);go_simp;refine hK.out _ _ ?_;clear hK K;have G3:Fr (λj=>j=kl) w3 ((w3.setCell ⟨kl,2,none⟩ (.slice (some ⟨g,0,none⟩) (rc+2) (rc+2))).drew):=((Fr.refl (λj=>j=kl) w3).setCell ⟨kl,2,none⟩ _ (λ_=>rfl)).drew;have ngk:g≠kl:=Om
 have la:=G3.cell la nbl;have inp:=G3.cell inp nbi;have HK3:=Hd (show ((w3.setCell ⟨kl,2,none⟩ (.slice (some ⟨g,0,none⟩) (rc+2) (rc+2))).drew).heap[kl]?=_ from Yk HK2.out 2 (.slice (some ⟨g,0,none⟩) (rc+2) (rc+2)));have HG3:=Hd (Xs HG2.out G3 ngk);have F3:=Hd (F2.out.then G3);have z2:_:=Zb HK3.out 2 _ rfl;clear G3 HK2 HG2 F2 f2 hS0 h1 h2 h3 hS l1;generalize World.drew (World.setCell w3 _ _)=w4 at la inp z2 HK3 HG3 F3⊢;have XD:=λq=>(Fe w4).drewN q
 have hL0:Ym (w4.drew) g (rc+2) (λ_=>.slice none 0 0) [] (λ_=>0) (λ_=>0) (λ_=>none):=Zfw HG3.out.drew
 have nO:¬ Yt g (rc+2) (λ_=>Value.slice none 0 0) kl:=by
  rintro (e|⟨p,_,e⟩)
  ·exact ngk e.symm
  ·cases e
 have e00:s.extract 0 0=ByteArray.empty:=by
  apply ByteArray.ext;rw[ByteArray.data_extract];simp
 have C2:Calls Tryz.prog 190 #[.pointer (some ⟨kl,0,none⟩),.int .i64 0,.int .i64 (-1),.int .i64 0,.int .i64 0,.int .i64 0,.string ByteArray.empty] w4.drew λe w'=>e=.returned (.tuple #[])/\∃ vs' nb',Ym w' g (rc+2) vs' [Qw] nb' (λ_=>0) (λ_=>none)/\Fr (Yt g (rc+2) (λ_=>Value.slice none 0 0)) w4.drew w'/\(∀ j,Yt g (rc+2) vs' j->Yt g (rc+2) (λ_=>Value.slice none 0 0) j\/w4.drew.heap.size<=j)/\∀ m,m<1->w4.heap.size<=nb' m:=by
  refine (Us kl g (rc+2) (rc+2) (λ_=>.slice none 0 0) [] (λ_=>0) Qw 0 w4.drew z2 Om hL0 nO (by simp) (.inl ⟨.inl rfl,rfl⟩) (by show ByteArray.empty.size<=_;decide) rfl (by show 0<rc+2;omega) ⟨by show 0<=1000000;omega,by show 0<=1000000;omega⟩).mono ?_;rintro e w' ⟨rfl,vs',nb',a1,a2,a3,_,a5⟩
  exact⟨rfl,vs',nb',a1,a2,a3,λm hm=>by
   have:m=0:=Om;subst this
   exact a5⟩
 have HC2:=Hd C2;clear C2 hL0 XD;go_wp2_with fail
 go_still_tail 3,Kr
 change wpList _ _ _ _ _ w4.drew;go_upto_region 7 with (first|(go_at_call 190;refine HC2.out.mono ?_;rintro e w5 ⟨rfl,vs1,nb1,a1,a2,a3,a4⟩;have HA:=Hd (Ai1 a1 (Ai1 a2 (Ai1 a3 a4)));clear a1 a2 a3 a4)|fail)
 obtain⟨a1,a2,a3,a4⟩:=HA.out;have lR:0<rc+2:=Om
 have lkw:kl<w.heap.size:=lkl0;have hsz4:w.heap.size<=w4.heap.size:=F3.out.size;have lbl4:=lt_of_cell la;have lbi4:=lt_of_cell inp;simp only at lbl4 lbi4
 have hlo:∀ vsx:Nat->Value,(∀ j,Yt g (rc+2) vsx j->Yt g (rc+2) (λ_=>Value.slice none 0 0) j\/w4.drew.heap.size<=j)->∀ j,Yt g (rc+2) vsx j->w.heap.size<=j/\j≠kl/\j≠bl/\j≠bi:=λvsx hv j e=>by
  rcases hv j e with (rfl|⟨p,_,q⟩)|q
  ·exact⟨lg,ngk,ngl,ngi⟩
  ·cases q
  ·have q':w4.heap.size<=j:=q;exact⟨Om,Om,Om,Om⟩
 have nO0:∀ j,Yt g (rc+2) (λ_=>Value.slice none 0 0) j->j=g:=by
  rintro j (e|⟨p,_,q⟩)
  ·exact e
  ·cases q
 have a2':Fr (λj=>j=g) w4 w5:=((Fr.refl (λj=>j=g) w4).drew).then (a2.mono (λj _ e=>nO0 j e));have la:=a2'.cell la (λe=>ngl e.symm);have inp:=a2'.cell inp (λe=>ngi e.symm);have hk5:=a2'.heap HK3.out (λe=>ngk e.symm);have z2:_:=Zb hk5 2 _ rfl;have HK5:=Hd hk5;have F5:=Hd ((F3.out.mono (S':=λj=>j=kl\/w.heap.size<=j) (λj _ e=>.inl e)).then (a2'.mono (S':=λj=>j=kl\/w.heap.size<=j) (λj _ e=>.inr (by rw[e];exact lg))));have HLO1:=Hd (hlo vs1 a3)
 have e_rc:s.extract rc rc=ByteArray.empty:=by
  apply ByteArray.ext;rw[ByteArray.data_extract];apply Array.eq_empty_of_size_eq_zero;rw[Array.size_extract];omega
 have hsz5:w4.heap.size<=w5.heap.size:=a2'.size
 have C3:Calls Tryz.prog 190 #[.pointer (some ⟨kl,0,none⟩),.int .i64 ((rc:Int)+1),.int .i64 (-1),.int .i64 (s.size:Int),.int .i64 (rc:Int),.int .i64 0,.string ByteArray.empty] w5.drew λe w'=>e=.returned (.tuple #[])/\∃ vs' nb',Ym w' g (rc+2) vs' [Qw,Od s] nb' (λ_=>0) (λ_=>none)/\Fr (Yt g (rc+2) vs1) w5.drew w'/\(∀ j,Yt g (rc+2) vs' j->Yt g (rc+2) (λ_=>Value.slice none 0 0) j\/w4.drew.heap.size<=j)/\∀ m,m<2->w4.heap.size<=nb' m:=by
  rw[(Om:((rc:Int)+1)=((rc+1:Nat):Int))];have e1:Od s=⟨-1,s.size,rc,rc+1,0,zeroM,.empty⟩:=by unfold Od;rw[HRC.out]
  rw[e1];refine (Us kl g (rc+2) (rc+2) vs1 [Qw] nb1 ⟨-1,s.size,rc,rc+1,0,zeroM,.empty⟩ (rc+1) w5.drew z2 Om (a1.ext (Fl w5).drew) (λe=>(HLO1.out _ e).2.1 rfl) (by simp) (.inl ⟨.inl rfl,rfl⟩) (by show ByteArray.empty.size<=_;decide) rfl (by show rc+1<rc+2;omega) ⟨by show s.size<=1000000;omega,by show rc<=1000000;omega⟩).mono ?_;rintro e w' ⟨rfl,vs',nb',b1,b2,b3,b4,b5⟩;refine⟨rfl,vs',nb',b1,b2,λj e=>?_,λm hm=>?_⟩;rotate_left
  ·rcases Nat.lt_or_ge m 1 with z|z
   ·rw[b4 m z];exact a4 m z
   ·have:m=1:=Om;subst this;have b5':w5.heap.size<=nb' 1:=b5;omega
  rcases b3 j e with q|q
  ·exact a3 j q
  ·have q':w5.heap.size<=j:=q;exact .inr ((Om:w4.heap.size<=j))
 have HC3:=Hd C3;clear C3 a1 a2 a3 a4 a2' hk5 HA HC2 nO HK3 HG3 nO0 C1;have HLO:=Hd hlo;clear hlo;have i1:(0:Int)<=(rc:Int):=Om
 have i2:(rc:Int)<=(s.size:Int):=Om
 have i3:IntKind.i64.wrap ((rc:Int)+1)=(rc:Int)+1:=by rw[IntKind.wrap_i64];omega
 go_still_tail 10,Kr
 change wpList _ _ _ _ _ w5.drew;go_upto_region 8 with (first|(go_at_call 190;refine HC3.out.mono ?_;rintro e w6 ⟨rfl,vs2,nb2,b1,b2,b3,b4⟩;have HB2:=Hd (Ai1 b1 (Ai1 b2 (Ai1 b3 b4)));clear b1 b2 b3 b4)|fail)
 obtain⟨b1,b2,b3,b4⟩:=HB2.out;have hlo2:=HLO.out vs2 b3;have bS:∀ j,Yt g (rc+2) vs1 j->w.heap.size<=j/\j≠kl/\j≠bl/\j≠bi:=HLO1.out;have b2':Fr (Yt g (rc+2) vs1) w5 w6:=((Fr.refl (Yt g (rc+2) vs1) w5).drew).then b2;have F6:=Hd (F5.out.then (b2'.mono (S':=λj=>j=kl\/w.heap.size<=j) (λj _ e=>.inr (bS j e).1)));have hla6:=b2'.cell la (λe=>(bS _ e).2.2.1 rfl);have hin6:=b2'.cell inp (λe=>(bS _ e).2.2.2 rfl);have hk6:=b2'.heap HK5.out (λe=>(bS _ e).2.1 rfl);have hlt6:=b1.lt lR;have hsz6:w.heap.size<=w6.heap.size:=F6.out.size;have hl6:bl<w6.heap.size/\bi<w6.heap.size:=⟨by have:=lt_of_cell hla6;simp only at this;omega,by have:=lt_of_cell hin6;simp only at this;omega⟩;have hdl:(Zd s).length=rc:=by rw[<- Sm,HRC.out]
 have hBH:BH d uk kd H w.heap.size kl g (rc+2) bl w6.heap.size bi (w6.heap.size+1) s (V2 (Z2 d (uk.map (·.2))) s 0) 0 (bp (Zd s) 0) ((w6.alloc (.cells #[.int .i64 (-1)] 3)).iter s 0):=by
  have X:Zf w6 ((w6.alloc (.cells #[.int .i64 (-1)] 3)).iter s 0):=((Fl w6).alloc _).alloc _;have FT:=F6.out.then (X.mono (S':=λj=>j=kl\/w.heap.size<=j) (λ_ _ e=>e.elim));have hUw:U<=w.heap.size:=Om
  have hS:∀ b,H<=b->b<U->¬ (b=kl\/w.heap.size<=b):=λb _ hb e=>by omega
  refine⟨X.cell hla6 id,X.cell hin6 id,X.cell (Zb hk6 2 _ rfl) id,X.cell (Zb hk6 3 _ rfl) id,(H0.out.1.keep FT hS).up hUw FT.size,⟨X.cell (Zb hk6 4 _ rfl) id,λx e=>((H0.out.2.1 x e).1.keep FT hS).up hUw,H0.out.2.2.fr FT (λe=>by have:=hG.1;omega) (λe=>by have:=hG.2;omega),?_,?_⟩,⟨vs2,nb2,b1.ext X,λj e=>?_,λm hm=>(by have:=b4 m hm;omega)⟩,?_⟩
  ·have:=alloc_at (w6.alloc (.cells #[.int .i64 (-1)] 3)) (.stringIter s 0);rw[Za]at this;exact this
  ·exact ((Fe _).alloc _).heap (alloc_at w6 _) id
  ·have h1:=hlo2 j e;have h2:=hlt6 j e;exact⟨Om,h1.2.1,h1.2.2.1,Om,h1.2.2.2,Om⟩
  ·exact⟨⟨Om,Om⟩,Om,Om,Om⟩
 have HBH:Hid _:=hBH;have HK8:Hid (((w6.alloc (.cells #[.int .i64 (-1)] 3)).iter s 0).heap[kl]?=some (.cells #[.string s,.slice none 0 0,.slice (some ⟨g,0,none⟩) (rc+2) (rc+2),.pointer (some ⟨kd,0,none⟩),.pointer (uk.map λx=>⟨x.1,0,none⟩)] 300 (0,0))):=(show Zf w6 ((w6.alloc (.cells #[.int .i64 (-1)] 3)).iter s 0) from ((Fl w6).alloc _).alloc _).heap hk6 id;have F8:Hid (Fr (λj=>j=kl\/w.heap.size<=j) w ((w6.alloc (.cells #[.int .i64 (-1)] 3)).iter s 0)):=(F6.out.alloc _).alloc _;have HNE:Hid ((w.heap.size<=w6.heap.size/\w.heap.size<=w6.heap.size+1)/\w6.heap.size≠kl/\w6.heap.size≠bl/\w6.heap.size≠bi):=⟨⟨Om,Om⟩,Om,Om,Om⟩;have HBR:Hid (w.heap.size<=w6.heap.size):=hsz6;clear hBH hlo2 bS b2' hlt6 hk6 hla6 b1 b2 b3 b4;have inp:=hin6;clear hin6;go_upto_region 10 with fail
 obtain⟨it,hit⟩:∃ it,it=w6.heap.size+1:=⟨_,rfl⟩;rw[<- hit]at HBH HNE⊢;clear hl6;generalize w6.heap.size=br at hit HBH HNE HBR⊢;generalize World.iter (World.alloc w6 _) _ _=w8 at HBH F8 HK8⊢;have hGV:Tn w.heap.size:=⟨by have:=hG.1;omega,by have:=hG.2;omega⟩;have HUS:Hid (∀ x,uk=some x->Yz x.2):=λx e=>(H0.out.2.1 x e).2
 have HIT:Hid (w.heap.size<=it):=by show _<=_;have:=HBR.out;omega
 have HDL:=Hd hdl;obtain⟨D,hD⟩:∃ D,D=Z2 d (uk.map (·.2)):=⟨_,rfl⟩;rw[<- hD]at HBH;have HDD:=Hd hD;try clear z2
 try clear z2
 try clear z2
 clear hit hD hdl F6 F5 HK5 HB2 HC3 HB HLO HLO1 HK e00 e_rc i1 i2 i3 wrc hRz z2 lbl lkl ngk ngl ngi nbl nbi nbb lbl4 lbi4 hsz4 hsz5 hsz6 la inp F3 lkw lg f1;have hUV:U<=w.heap.size:=Om
 obtain⟨V,hV⟩:∃ V,V=w.heap.size:=⟨_,rfl⟩;rw[<- hV]at HBH F8 HIT HBR HNE hGV hUV;have HV:=Hd hV;clear hV hG
 go_loopg [] rc (λg1 wr=>∃ k:Nat,k<=rc/\rc<=k+g1/\Hid (BH d uk kd H V kl g (rc+2) bl br bi it s (V2 D s k) k (bp (Zd s) k) wr)/\Hid (Fr (λj=>V<=j) w8 wr))
 case atStart=>exact⟨0,Om,Om,HBH,Fl _⟩
 case round =>
  clear HBH;obtain⟨k,hk,hg1,HB,HF⟩:=hrel;by_cases hlt:k<rc
  ·have hkl:k<(Zd s).length:=by rw[HDL.out];exact hlt
   have hg:=hs _ (List.getElem_mem hkl);have hlen0:0<(Zd s)[k].length:=List.length_pos_iff.2 hg.1.1;have hdec:=Zc0 hs k hkl;have hbp:=Mf (Zd s) k hkl;have hble:=Mi s (k+1);have hrune:=Lib.rune_le s (bp (Zd s) k);rw[hdec]at hrune;have hrl:=Zb5 hs k hkl;obtain⟨ch,hch⟩:∃ ch,ch=(Zd s)[k]:=⟨_,rfl⟩;rw[<- hch]at hg hlen0 hdec hbp hrune hrl;obtain⟨pos,hpos⟩:∃ pos,pos=bp (Zd s) k:=⟨_,rfl⟩;rw[<- hpos]at hdec hbp HB;obtain⟨len,hlen⟩:∃ len,len=ch.length:=⟨_,rfl⟩;rw[<- hlen]at hdec hbp hlen0 hrl;obtain⟨r,hr0⟩:∃ r,r=Xa ch:=⟨_,rfl⟩;rw[<- hr0]at hdec hg hrune hrl;have hnx:=λty=>Pb (P:=Tryz.prog) HB.out.x.itr ty ((Om:pos<s.size))
   rw[hdec]at hnx;simp only at hnx;have p1:pos+len<=s.size:=Om;have rp:=HB.out.rp.1;have rpf:=HB.out.rp.2;have HPK:=Hd (Ai1 hch (Ai1 hpos (Ai1 hlen (Ai1 hr0 (Ai1 hbp (Ai1 hg hrl))))));have hr65:r≠65533:=hg.2;have lbr:br<wr.heap.size:=by have:=lt_of_cell rp;simpa using this
   have fI:=Th wr it s (pos+len);have hbi2:br≠it:=R5 rp HB.out.x.itr;have rp2:=fI.cell rp hbi2;have rpf2:=(fI.frozen rp hbi2).trans rpf;have lbr2:br<(Wc wr it s (pos+len)).heap.size:=by have:=lt_of_cell rp2;simpa using this
   clear hch hpos hlen hr0 hbp hg hrl hdec fI;go_upto_region 13 with fail
   go_cut [8] from 74 to 74 (λv8 wx=>∃ bq ba,v8=.pointer (some ⟨ba,0,none⟩)/\bq=(Wc wr it s (pos+len)).heap.size/\Hid (BM d uk kd H V kl g (rc+2) (rc+2) bl br bq bi ba it s k pos (pos+len) (V2 D s k) false wx)/\Hid (Fr (λj=>V<=j) w8 wx))
   case first =>
    go_wp2_with fail
    go_meet
    case rel =>
     have eis:(Wc wr it s (pos+len)).heap.size=wr.heap.size:=(by simp[Wc]);have ecs:((Wc wr it s (pos+len)).setCell ⟨br,0,none⟩ (.int .i64 k)).heap.size=wr.heap.size:=by rw[<- eis];simp[World.setCell]
     have fA:Fr (λj=>j=it\/j=br) wr ((Wc wr it s (pos+len)).setCell ⟨br,0,none⟩ (.int .i64 k)):=((Th wr it s (pos+len)).mono (λj _ e=>.inl e)).setCell ⟨br,0,none⟩ _ (λ_=>.inr rfl);have hi1:((Wc wr it s (pos+len)).setCell ⟨br,0,none⟩ (.int .i64 k)).heap[it]?=some (.stringIter s (pos+len)):=((Fr.refl (λj=>j=br) _).setCell ⟨br,0,none⟩ _ (λ_=>rfl)).heap (Pi (pos+len) HB.out.x.itr) (λe=>hbi2 e.symm);have hb1:=Yk ((Th wr it s (pos+len)).heap HB.out.x.hbr hbi2) 0 (.int .i64 k)
     have HM:Hid (BM d uk kd H V kl g (rc+2) (rc+2) bl br wr.heap.size bi (wr.heap.size+1) it s k pos (pos+len) (V2 D s k) false ((((Wc wr it s (pos+len)).setCell ⟨br,0,none⟩ (.int .i64 k)).alloc (.cells #[.int .i64 pos] 3)).alloc (.cells #[.bool false] 4))):=by
      have hq0:=Yb ((Wc wr it s (pos+len)).setCell ⟨br,0,none⟩ (.int .i64 k)) #[.int .i64 pos] 3 0 (.int .i64 pos) rfl;have ha0:=alloc_at (((Wc wr it s (pos+len)).setCell ⟨br,0,none⟩ (.int .i64 k)).alloc (.cells #[.int .i64 pos] 3)) (.cells #[.bool false] 4);rw[Za]at ha0;rw[ecs]at hq0 ha0;have X2:Zf ((Wc wr it s (pos+len)).setCell ⟨br,0,none⟩ (.int .i64 k)) ((((Wc wr it s (pos+len)).setCell ⟨br,0,none⟩ (.int .i64 k)).alloc (.cells #[.int .i64 pos] 3)).alloc (.cells #[.bool false] 4)):=((Fl _).alloc _).alloc _;exact HB.out.begin hGV (pos+len) pos ((fA.alloc _).alloc _) (X2.heap hi1 id) (X2.heap hb1 id) (((Fe _).alloc _).cell hq0 id) ⟨Zb ha0 0 _ rfl,Zi ha0 0⟩ ⟨Om,Om,Om⟩ Om
     have HF2:Hid (Fr (λj=>V<=j) w8 ((((Wc wr it s (pos+len)).setCell ⟨br,0,none⟩ (.int .i64 k)).alloc (.cells #[.int .i64 pos] 3)).alloc (.cells #[.bool false] 4))) :=
      HF.out.then (((fA.mono (S':=λj=>V<=j) (λj _ e=>(by
       have h1:=HBR.out;have h2:=HIT.out
       rcases e with rfl|rfl<;>assumption))).alloc _).alloc _)
     refine⟨wr.heap.size,wr.heap.size+1,?_,eis.symm,HM,HF2⟩;first|rfl|(rw[eis])|(rw[ecs])|(rw[Za,ecs])|(rw[Za,eis])
   case rest =>
   obtain⟨bq,ba,rfl,ebq,HM,HF2⟩:=hcut;rw[<- ebq];clear ebq hnx rp rpf rp2 rpf2 lbr2 HB HF lbr;go_step;refine wp_seq_k λK hK=>?_
   generalize wc=wq at HM HF2⊢
   have hnsl:(V2 D s k).length<=2+k*400000:=by
    rw[HDD.out]
    exact Je hr hd _ (λks e=>by
     cases uk with
     | none=>cases e
     | some x =>
      have e2:x.2=ks:=by
       have:some x.2=some ks:=e;injection this
      rw[<- e2];exact HUS.out x rfl) s hsz k Om
   have hk300:k<=300:=Om;have hpk:pos=bp (Zd s) k:=HPK.out.2.1;have HPS:=Hd hpk;have hkl2:k<=(Zd s).length:=Om;obtain⟨UN,hUN⟩:∃ UN,UN=Uk D s k pos:=⟨_,rfl⟩;have HUN:=Hd hUN;clear hUN hpk;have hz1:(0:Int)<=(pos:Int):=Om;have hz2:(pos:Int)<=(s.size:Int):=Om
   go_cut [] from 75 to 91 (λwx=>Hid (BM d uk kd H V kl g (rc+2) (rc+2) bl br bq bi ba it s k pos (pos+len) (V2 D s k++UN) (decide (0<UN.length)) wx)/\Hid (Fr (λj=>V<=j) w8 wx))
   case first =>
    have la:=HM.out.fix.la;have lbl:=lt_of_cell la
    cases uk with
    | none =>
     have usr:wq.cell? ⟨kl,4,none⟩=some (.pointer none):=HM.out.x.usr;have lkl:=lt_of_cell usr;go_wp2_with fail
     go_meet
     case rel =>
      have e:UN=[]:=by rw[HUN.out,HDD.out];rfl
      rw[e,List.append_nil];exact⟨HM,HF2⟩
    | some x =>
     obtain⟨ku,ks⟩:=x;have usr:wq.cell? ⟨kl,4,none⟩=some (.pointer (some ⟨ku,0,none⟩)):=HM.out.x.usr;have lkl:=lt_of_cell usr;have inp:=HM.out.fix.inp;have ps:=HM.out.fix.ps;have lbi:=lt_of_cell inp;have lbq:=lt_of_cell ps;obtain⟨gu,nu,mu,c0,c1,hidx,_,hgu,hmu⟩:=HM.out.x.user _ rfl;have lku:=lt_of_cell c0;have HMD:=Hd (HM.out.ext hGV ((Fl wq).drew));have C5:=Hd (Gy 192 3 (λ_=>zeroM) gu nu mu ks (λ_ _=>Kr) (HUS.out _ rfl) hs hsz hkl2 HPS.out (by rw[HRC.out]) Om hGV (λi _=>.inl ⟨rfl,rfl⟩) (λL hL hl O m hm w h=>Zlu d hr kd H V kl g (rc+2) (rc+2) bl br bq bi ba s k pos (λ_=>zeroM) (V2 D s k) L hL Om Om hl Om Om HMD.out.ba.1 O m hm w h) HMD.out (hidx.keep ((Fe wq).drew) id id) ⟨hgu.2,hmu.2⟩);clear hidx hgu hmu;go_upto_region 15 with fail
     go_still_tail 11,Kr
     change wpList _ _ _ _ _ wq.drew;go_wp2_with (first|(go_at_call 191;refine C5.out.mono ?_;rintro e w5 ⟨rfl,h1,h2⟩;have H5:=Hd (Ai1 h1 h2);clear h1 h2)|fail)
     go_meet
     case rel =>
      have e:UN=Z7 s k pos 3 (λ_=>zeroM) (told ks (s.extract pos s.size)):=by rw[HUN.out,HDD.out];rfl
      have e2:UN.length=(told ks (s.extract pos s.size)).length:=by rw[e];exact List.length_map _
      rw[e2,e];exact⟨H5.out.1,HF2.out.drew.then H5.out.2⟩
   case rest =>
    obtain⟨HM1,HF3⟩:=hcut;clear HM HF2;go_step;refine wp_seq_k λK hK=>?_
    have han:=HM1.out.an.1;have lba:=lt_of_cell han;have hup:=Hk D s k;have hbpk:bp (Zd s) (k+1)=pos+len:=HPK.out.2.2.2.2.1;have HUP:=Hd (Ai1 hup hbpk);clear hup hbpk;by_cases hu0:0<UN.length
    ·have hu1:decide (0<UN.length)=true:=decide_eq_true hu0;go_wp2_with fail
     go_roundg (rc-(k+1))
     case measure=>omega
     case rel=>exact⟨k+1,Om,Om,by
      have e:Xl D s (Zd s) k=UN:=by
       unfold Xl;rw[<- HPS.out,<- HUN.out,if_neg (by intro q;rw[q]at hu0;simp at hu0)]
      rw[HUP.out.1,HUP.out.2,e]
      exact HM1.out.done HNE.out,HF3⟩
    ·have hu1:decide (0<UN.length)=false:=decide_eq_false hu0
     have hu2:UN=[]:=by
      cases UN with
      | nil=>rfl
      | cons a l=>simp at hu0
     have HM1:Hid (BM d uk kd H V kl g (rc+2) (rc+2) bl br bq bi ba it s k pos (pos+len) (V2 D s k) false wc):=by
      have:=HM1.out;rw[hu1,hu2,List.append_nil]at this;exact this
     have HUN0:Hid (Uk D s k pos=[]):=by show _=[];rw[<- HUN.out,hu2]
     rw[hu1]at han;clear hu1 hu2 hu0 HUN;go_upto_region 17 with fail
     obtain⟨KN,hKN⟩:∃ KN,KN=Vf D s k pos:=⟨_,rfl⟩;have HKN:=Hd hKN;clear hKN
     go_cut [] from 93 to 104 (λwx=>Hid (BM d uk kd H V kl g (rc+2) (rc+2) bl br bq bi ba it s k pos (pos+len) (V2 D s k++KN) (decide (0<KN.length)) wx)/\Hid (Fr (λj=>V<=j) w8 wx))
     case first =>
      have la:=HM1.out.fix.la;have lbl:=lt_of_cell la;have dic:=HM1.out.fix.dic;have lkl:=lt_of_cell dic;have inp:=HM1.out.fix.inp;have ps:=HM1.out.fix.ps;have lbi:=lt_of_cell inp;have lbq:=lt_of_cell ps;obtain⟨gu,nu,mu,c0,c1,hidx,hgu,hmu⟩:=HM1.out.fix.dict.index;have lku:=lt_of_cell c0;have HMD:=Hd (HM1.out.ext hGV ((Fl wc).drew));have C5:=Hd (Gy 193 1 (λi=>((Zu d).map Zfv).getD i default) gu nu mu ((Zu d).map GWord.surface) (λ_ _=>Kr) (Py hr hd) hs hsz hkl2 HPS.out (by rw[HRC.out]) Om hGV (λi hi=>Gp i hi) (λL hL hl O m hm w h=>Zlv d hr kd H V kl g (rc+2) (rc+2) bl br bq bi ba s k pos (λi=>((Zu d).map Zfv).getD i default) (V2 D s k) L hL Om Om hl Om Om HMD.out.ba.1 O m hm w h) HMD.out (hidx.keep ((Fe wc).drew) id id) ⟨hgu.2,hmu.2⟩);clear hidx hgu hmu han lba
      go_still_tail 11,Kr
      change wpList _ _ _ _ _ wc.drew;go_wp2_with (first|(go_at_call 191;refine C5.out.mono ?_;rintro e w5 ⟨rfl,h1,h2⟩;have H5:=Hd (Ai1 h1 h2);clear h1 h2)|fail)
      go_meet
      case rel =>
       have e:KN=Z7 s k pos 1 (λi=>((Zu d).map Zfv).getD i default) (told ((Zu d).map GWord.surface) (s.extract pos s.size)):=by rw[HKN.out,HDD.out];rfl
       have e2:KN.length=(told ((Zu d).map GWord.surface) (s.extract pos s.size)).length:=by rw[e];exact List.length_map _
       rw[e2,e];exact⟨H5.out.1,HF3.out.drew.then H5.out.2⟩
     case rest =>
      obtain⟨HM2,HF4⟩:=hcut;clear HM1 HF3 han lba
      have hkn:KN.length<=300000:=by
       rw[HKN.out,HDD.out];unfold Vf;rw[List.length_map];have h1:=Ni (Py hr hd) (s.extract pos s.size);have h2:(s.extract pos s.size).size<=300:=by rw[ByteArray.size_extract];omega
       show (told ((Zu d).map GWord.surface) (s.extract pos s.size)).length<=_;omega
      go_step;generalize wc=wm at HM2 HF4⊢;obtain⟨cN,hcN⟩:∃ cN,cN=D.cat r:=⟨_,rfl⟩;have hcl:cN<d.classes.length:=by rw[hcN,HDD.out];exact It hr _ r
      have hc12:d.classes.length<=12:=(Wu hr).2.2.2.2;have HCN:=Hd hcN
      have CAT:Hid (∀ (q:Nat) (W:World),Zx d kd H V W->q<=1114111->Calls Tryz.prog 194 #[.pointer (some ⟨kd,0,none⟩),.int .i32 q] W λe w'=>e=.returned (.int .u8 (D.cat q:Int))/\w'=W):=λq W hD hq=>by
       obtain⟨cc,z1,z2⟩:=hD.cat;rw[HDD.out]
       exact Dv kd cc 65536 65536 (λi=>(U9 d.chars i).toNat) q W hq Om Om z1 (λi hi=>by
        show W.cell? ⟨cc,i,none⟩=some (Value.int .u8 (((U9 d.chars i).toNat:Nat):Int))
        rw[Zlw hr];exact z2 i hi)
      have C6:=CAT.out r wm HM2.out.fix.dict hrune;rw[<- hcN]at C6;have la:=HM2.out.fix.la;have lbl:=lt_of_cell la;have dic:=HM2.out.fix.dic;have lkl:=lt_of_cell dic;clear hcN;go_upto_region 19 with (first|(go_at_call 194;refine C6.mono ?_;rintro e w5 ⟨rfl,e5⟩;have e5:=e5.symm;subst e5)|fail)
      have han:=HM2.out.an.1;have lba:=lt_of_cell han;have wcn:IntKind.i64.wrap (cN:Int)=(cN:Int):=by rw[IntKind.wrap_i64];omega
      have hc0:(0:Int)<=(cN:Int):=Om;have hc1:(cN:Int)<(d.classes.length:Int):=Om
      go_cut [125] from 111 to 125 (λv125 wx=>v125=.bool (decide (KN=[]\/D.invoke cN=true))/\wx=wm)
      case first =>
       obtain⟨gi,ci,i1,i2⟩:=HM2.out.fix.dict.invoke cN hcl
       have hinv:D.invoke cN=d.classes[cN].invoke:=by
        rw[HDD.out];show (d.classes.getD cN _).invoke=_;rw[List.getD_eq_getElem?_getD,Ge hcl];rfl
       have lkd:=lt_of_cell i1;have lgi:=lt_of_cell i2
       cases hK0:KN with
       | nil =>
        rw[hK0]at han;have han:wm.cell? ⟨ba,0,none⟩=some (.bool false):=han;clear hinv i1 i2;go_wp2_with fail
        go_meet
        case rel=>exact⟨by rw[hK0];simp,rfl⟩
       | cons x l =>
        rw[hK0]at han;have han:wm.cell? ⟨ba,0,none⟩=some (.bool true):=by rw[han];simp
        have HINV:=Hd hinv;clear hinv;go_wp2_with fail
        go_meet
        case rel=>exact⟨by rw[hK0,HINV.out];simp,rfl⟩
      case rest =>
       obtain⟨rfl,e5⟩:=hcut;subst e5;go_step
       have hch:Xa ((Zd s).getD k [])=r:=by
        rw[List.getD_eq_getElem?_getD,Ge hkl];have:=HPK.out;rw[this.2.2.2.1,this.1];rfl
       have HCH:=Hd hch;clear hch;by_cases hcond:KN=[]\/D.invoke cN=true
       ·have hcb:decide (KN=[]\/D.invoke cN=true)=true:=decide_eq_true hcond;rw[hcb]
        have CR:∀ q,Calls Tryz.prog 195 #[.int .i32 r] (wc.drewN q) λe w'=>e=.returned (.int .i64 (len:Int))/\w'=wc.drewN q:=λq=>by
         rw[<- HPK.out.2.2.2.2.2.2];exact Bv r _
        have ps:=HM2.out.fix.ps;have lbq:=lt_of_cell ps;have hrb:((r:Int) != 65533)=true:=by simp;omega
        have wsum1:IntKind.i64.wrap ((pos:Int)+(len:Int))=(pos:Int)+(len:Int):=by rw[IntKind.wrap_i64];omega
        go_upto_region 22 with fail
        go_quiet ((go_at_call 195;exact Calls.quiet_of_same (CR _)))
        go_upto_region 24 with fail
        obtain⟨AN,hAN⟩:∃ AN,AN=decide (0<KN.length):=⟨_,rfl⟩;rw[<- hAN]at HM2;have HM3:=Hd (HM2.out.ext hGV ((Fl wc).drewN nq));have HF5:=Hd (HF4.out.drewN nq);clear HM2 HF4 hAN CR ps lbq la lbl dic lkl han lba C6;generalize wc.drewN nq=wn at HM3 HF5⊢;obtain⟨q1,hq1⟩:∃ q1,q1=pos+len:=⟨_,rfl⟩;rw[(Om:(pos:Int)+(len:Int)=(q1:Int))];have HQ1:=Hd hq1;have HQB:Hid (bp (Zd s) (k+1)=q1):=by show _=q1;rw[HUP.out.2,hq1]
        clear hq1 wsum1
        go_cut [11] from 133 to 133 (λv11 wx=>v11=.int .i64 1/\wn=wx)
        case first =>
         go_wp2_with fail
         go_meet
         case rel=>exact⟨rfl,rfl⟩
        case rest =>
        obtain⟨rfl,e5⟩:=hcut;subst e5;go_step;refine wp_seq_k λK hK=>?_
        obtain⟨e,he⟩:∃ e,e=Wy D (Zd s) k:=⟨_,rfl⟩;obtain⟨M,hM⟩:∃ M:Nat,M=1023:=⟨_,rfl⟩
        have hge:e=k+1+(if D.group cN then Wx D.cat cN M ((Zd s).drop (k+1)) else 0):=by
         rw[he,hM];unfold Wy;rw[HCH.out,<- HCN.out]
        have hel:k+1<=e/\e<=(Zd s).length:=by
         rw[hge];have:=P1 D.cat cN M ((Zd s).drop (k+1));rw[List.length_drop]at this
         split<;>omega
        have HE:=Hd (Ai1 he hge);obtain⟨hel1,hel2⟩:=hel;clear he hge
        go_cut [10,11,12,13,14,15] from 134 to 175 (λv10 v11 v12 v13 v14 v15 wx=>v10=.int .i64 (bp (Zd s) e:Int)/\Hid (BM d uk kd H V kl g (rc+2) (rc+2) bl br bq bi ba it s k pos (pos+len) (V2 D s k++KN) AN wx)/\Hid (Fr (λj=>V<=j) w8 wx))
        case first =>
         obtain⟨gi,ci,i1,i2⟩:=HM3.out.fix.dict.group cN hcl
         have hgrp:D.group cN=d.classes[cN].group:=by
          rw[HDD.out];show (d.classes.getD cN _).group=_;rw[List.getD_eq_getElem?_getD,Ge hcl];rfl
         have lkd:=lt_of_cell i1;have lgi:=lt_of_cell i2;have la:=HM3.out.fix.la;have lbl:=lt_of_cell la;have dic:=HM3.out.fix.dic;have lkl:=lt_of_cell dic;have inp:=HM3.out.fix.inp;have lbi:=lt_of_cell inp
         cases hgb:d.classes[cN].group with
         | false =>
          rw[hgb]at i2;go_wp2_with fail
          go_meet
          case rel=>exact⟨by rw[HE.out.2,hgrp,hgb];rw[if_neg (by simp),Nat.add_zero,HQB.out],HM3,HF5⟩
         | true =>
          rw[hgb]at i2;obtain⟨GLn,hGL⟩:∃ GLn,GLn=Wx D.cat cN M ((Zd s).drop (k+1)):=⟨_,rfl⟩;have HEG:Hid (e=k+1+GLn):=by show e=_;rw[HE.out.2,hgrp,hgb,if_pos rfl,hGL]
          have HGL:=Hd hGL;clear hgrp hGL;go_upto_region 26 with fail
          go_quiet (fail)
          go_wp2_with fail
          have HM4:=Hd (HM3.out.ext hGV ((Fl wn).drewN nq));have HF6:=Hd (HF5.out.drewN nq);clear i1 i2 lkd lgi la lbl dic lkl inp lbi HM3 HF5;generalize wn.drewN nq=wg at HM4 HF6⊢
          go_loopg [10,11,12,13,15] M (λg1 v10 v11 v12 v13 v15 wr=>∃ j i:Nat,v10=.int .i64 (i:Int)/\v12=.int .i64 (i:Int)/\v11=.int .i64 ((j:Int)+1)/\j<M/\M<=j+g1/\k+1+j<=(Zd s).length/\Hid (i=bp (Zd s) (k+1+j))/\Hid (j+Wx D.cat cN (M-j) ((Zd s).drop (k+1+j))=GLn)/\Hid (BM d uk kd H V kl g (rc+2) (rc+2) bl br bq bi ba it s k pos (pos+len) (V2 D s k++KN) AN wr)/\Hid (Fr (λj=>V<=j) w8 wr))
          case atStart=>exact⟨0,q1,rfl,rfl,rfl,Om,Om,Om,HQB.out.symm,by show 0+Wx D.cat cN (M-0) ((Zd s).drop (k+1+0))=GLn;rw[HGL.out,Nat.zero_add,Nat.sub_zero,Nat.add_zero],HM4,HF6⟩
          case round =>
           clear HM4 HF6;obtain⟨j,i,rfl,rfl,rfl,hj,hg2,hjl,HI,HJ,HMR,HFR⟩:=hrel;have hir:=Mi s (k+1+j);rw[<- HI.out]at hir;by_cases hjt:k+1+j<(Zd s).length
           ·have hdlt:=Zma hs hjt (Nl _);rw[Ln,<- HI.out]at hdlt;have hz3:(i:Int)<(s.size:Int):=Om;have hz4:(0:Int)<=(i:Int):=Om;have hz5:(i:Int)<=(s.size:Int):=Om;have inp:=HMR.out.fix.inp;have lbi:=lt_of_cell inp;have la:=HMR.out.fix.la;have dic:=HMR.out.fix.dic;have CD:=Zlq (s.extract i s.size) wr HMR.out.x.u8;have hdg:Lib.decodeGo (s.extract i s.size)=(Xa (Zd s)[k+1+j],(Zd s)[k+1+j].length):=by rw[HI.out];exact Zjc hs _ hjt
            rw[hdg]at CD;have hrl2:=Lib.rune_le s (bp (Zd s) (k+1+j));rw[Zc0 hs _ hjt]at hrl2;have hbs:=Mf (Zd s) (k+1+j) hjt;have hgs:=Zin D.cat cN (M-(j+1)) (Zd s) (k+1+j) hjt;rw[(Om:M-(j+1)+1=M-j)]at hgs;have hble2:=Mi s (k+1+j+1);obtain⟨c2,hc2⟩:∃ c2,c2=Xa (Zd s)[k+1+j]:=⟨_,rfl⟩;obtain⟨w2,hw2⟩:∃ w2,w2=(Zd s)[k+1+j].length:=⟨_,rfl⟩;rw[<- hc2]at CD hrl2 hgs;rw[<- hw2]at CD hbs;have hi2:i+w2<=s.size:=by rw[HI.out];omega
            have HBS:=Hd (Ai1 hbs hgs);have ws1:IntKind.i64.wrap ((i:Int)+(w2:Int))=(i:Int)+(w2:Int):=by rw[IntKind.wrap_i64];omega
            clear hbs hgs hble2 hdg hdlt hc2 hw2;by_cases hcat:D.cat c2=cN
            ·have hcb2:((D.cat c2:Int) != (cN:Int))=false:=(by simp[hcat]);by_cases hlast:j+1=M
             ·have hlz:(1024:Int)<=(j:Int)+1+1:=Om
              go_wp2_with (first
               | (go_at_call 196;refine CD.mono ?_;rintro e5 w5 ⟨rfl,hx⟩;have HX:=Hd hx;have la:=hx.cell la id;have dic:=hx.cell dic id;have lbl:=lt_of_cell la;have lkl:=lt_of_cell dic;clear hx)
               | (go_at_call 194;refine (CAT.out c2 _ (HMR.out.ext hGV HX.out).fix.dict hrl2).mono ?_;rw[hcat];rintro e6 w6 ⟨rfl,e6⟩;subst e6)
               | fail)
              go_meet
              case rel=>exact⟨by
               have h1:=HJ.out;rw[HBS.out.2,if_pos hcat]at h1
               have h0:Wx D.cat cN (M-(j+1)) ((Zd s).drop (k+1+j+1))=0:=by
                rw[(Om:M-(j+1)=0)];simp only[Wx]
               rw[h0]at h1;have h2:=HBS.out.1;have h3:=HI.out;rw[HEG.out,(Om:k+1+GLn=k+1+j+1),h2,<- h3]
               go_num,HMR.out.ext hGV HX.out,HFR.out.ext HX.out⟩
             ·have hlz:¬ (1024:Int)<=(j:Int)+1+1:=Om
              go_wp2_with (first
               | (go_at_call 196;refine CD.mono ?_;rintro e5 w5 ⟨rfl,hx⟩;have HX:=Hd hx;have la:=hx.cell la id;have dic:=hx.cell dic id;have lbl:=lt_of_cell la;have lkl:=lt_of_cell dic;clear hx)
               | (go_at_call 194;refine (CAT.out c2 _ (HMR.out.ext hGV HX.out).fix.dict hrl2).mono ?_;rw[hcat];rintro e6 w6 ⟨rfl,e6⟩;subst e6)
               | fail)
              go_roundg (M-(j+1))
              case measure=>omega
              case rel=>exact⟨j+1,i+w2,by go_num,by go_num,by go_num,Om,Om,Om,by
               show i+w2=_
               rw[(Om:k+1+(j+1)=k+1+j+1),HBS.out.1,HI.out],by
               have h1:=HJ.out;rw[HBS.out.2,if_pos hcat]at h1;show j+1+Wx D.cat cN (M-(j+1)) ((Zd s).drop (k+1+(j+1)))=GLn;rw[(Om:k+1+(j+1)=k+1+j+1)]
               omega,HMR.out.ext hGV HX.out,HFR.out.ext HX.out⟩
            ·have hcb2:((D.cat c2:Int) != (cN:Int))=true:=by simp;omega
             go_wp2_with (first
              | (go_at_call 196;refine CD.mono ?_;rintro e5 w5 ⟨rfl,hx⟩;have HX:=Hd hx;have la:=hx.cell la id;have dic:=hx.cell dic id;have lbl:=lt_of_cell la;have lkl:=lt_of_cell dic;clear hx)
              | (go_at_call 194;refine (CAT.out c2 _ (HMR.out.ext hGV HX.out).fix.dict hrl2).mono ?_;rintro e6 w6 ⟨rfl,e6⟩;subst e6)
              | fail)
             go_meet
             case rel=>exact⟨by
              have h1:=HJ.out;rw[HBS.out.2,if_neg hcat,Nat.add_zero]at h1
              rw[HEG.out,<- h1,<- HI.out],HMR.out.ext hGV HX.out,HFR.out.ext HX.out⟩
           ·have hjn:k+1+j=(Zd s).length:=Om;have hin:i=s.size:=(by rw[HI.out,hjn,Ln]);have hz3:¬ (i:Int)<(s.size:Int):=Om;have inp:=HMR.out.fix.inp;have lbi:=lt_of_cell inp;clear hin;go_wp2_with fail
            go_meet
            case rel=>exact⟨by
             have h1:=HJ.out;rw[Zlj _ _ _ _ _ Om,Nat.add_zero]at h1
             rw[HEG.out,<- h1,<- HI.out],HMR,HFR⟩
        case rest =>
        obtain⟨rfl,HM4,HF6⟩:=hcut;clear HM3 HF5;go_step;refine wp_seq_k λK hK=>?_
        generalize wc=wm at HM4 HF6⊢;obtain⟨E,hE⟩:∃ E,E=bp (Zd s) e:=⟨_,rfl⟩;obtain⟨P,hP⟩:∃ P,P=bp (Zd s) (e-1):=⟨_,rfl⟩;have hel3:e-1<(Zd s).length:=Om;have hlst:=Zlb hs k e Om hel2;have hEP:=Mf (Zd s) (e-1) hel3;rw[(Om:e-1+1=e)]at hEP;obtain⟨lc,hlc⟩:∃ lc,lc=Xa (Zd s)[e-1]:=⟨_,rfl⟩;obtain⟨lw,hlw⟩:∃ lw,lw=(Zd s)[e-1].length:=⟨_,rfl⟩;have hlc5:lc≠65533:=by rw[hlc];exact (hs _ (List.getElem_mem hel3)).2
        have hlc2:lc<=1114111:=by
         have:=Lib.rune_le s (bp (Zd s) (e-1));rw[Zc0 hs _ hel3]at this;rw[hlc];exact this
        rw[<- hlc,<- hlw]at hlst;rw[<- hE,<- hP,<- hlw]at hEP;rw[<- hE,<- HPS.out]at hlst;have hEs:E<=s.size:=by rw[hE];exact Mi s e
        have hPp:pos<=P:=by rw[HPS.out,hP];exact Mh _ Om
        have CL:=λW (hT:U8 W)=>Za6 (s.extract pos E) W (by rw[ByteArray.size_extract];omega) hT
        rw[hlst]at CL;rw[<- hE];have HEPP:=Hd (Ai1 hE (Ai1 hP hEP));have ps:=HM4.out.fix.ps;have inp:=HM4.out.fix.inp;have lbq:=lt_of_cell ps;have lbi:=lt_of_cell inp;have y1:(0:Int)<=(pos:Int):=Om;have y2:(pos:Int)<=(E:Int):=Om;have y3:(E:Int)<=(s.size:Int):=Om;have y4:((lc:Int) != 65533)=true:=by simp;omega
        have y5:IntKind.i64.wrap ((E:Int)-(lw:Int))=(P:Int):=by rw[IntKind.wrap_i64];omega
        have y6:(E:Int)-(lw:Int)=(P:Int):=Om;clear hlst hlc hlw hEP hE hP
        go_cut [16] from 176 to 176 (λv16 wx=>v16=.int .i64 (pos:Int)/\wm=wx)
        case first =>
         go_wp2_with fail
         go_meet
         case rel=>exact⟨rfl,rfl⟩
        case rest =>
        obtain⟨rfl,e5⟩:=hcut;subst e5;go_step;have CL:=CL wm HM4.out.x.u8;obtain⟨mi,md,n1,n2,n3,n4⟩:=HM4.out.fix.dict.maps;have hmx:=Nw hr (uk.map (·.2)) cN hcl;rw[<- HDD.out]at hmx;obtain⟨ix,hix⟩:∃ ix,ix=D.idx cN:=⟨_,rfl⟩;obtain⟨dp,hdp⟩:∃ dp,dp=D.dup cN:=⟨_,rfl⟩;rw[<- hix,<- hdp]at hmx;obtain⟨hmx1,hmx2,hmx3⟩:=hmx;have HIX:=Hd (Ai1 hix hdp);have hul:(Ze d).length<=1000:=by rw[Wj];exact hd.unk
        have la:=HM4.out.fix.la;have dic:=HM4.out.fix.dic;have w32c:IntKind.i32.wrap (cN:Int)=(cN:Int):=by rw[IntKind.wrap_i32];omega
        have w64d:IntKind.i64.wrap (dp:Int)=(dp:Int):=by rw[IntKind.wrap_i64];omega
        have w64e:IntKind.i64.wrap ((dp:Int)+1)=(dp:Int)+1:=by rw[IntKind.wrap_i64];omega
        clear hix hdp
        go_upto_block 4 with (first
         | (go_at_call 197;refine CL.mono ?_;rintro e6 w6 ⟨rfl,hx⟩;have HX:=Hd hx;have la:=hx.cell la id;have dic:=hx.cell dic id;have n1:=hx.cell n1 id;have n2:=hx.cell n2 id;have N3:=Hd (n3.keep hx id);have N4:=Hd (n4.keep hx id);have lbl:=lt_of_cell la;have lkl:=lt_of_cell dic;have lkd:=lt_of_cell n1;clear hx n3 n4)
         | (at_lookup;refine Zk rfl _ _ false rfl Sw Tryz.underlying100 Tryz.underlying21 (R7 _) rfl N3.out (cN:Int) rfl ?_;simp only[Bool.false_eq_true,if_false,hmx1])
         | (at_lookup;refine Zk rfl _ _ false rfl Sw Tryz.underlying100 Tryz.underlying21 (R7 _) rfl N4.out (cN:Int) rfl ?_;simp only[Bool.false_eq_true,if_false,hmx2])
         | fail)
        have HM5:=Hd (HM4.out.ext hGV HX.out);have HF7:=Hd (HF6.out.ext HX.out);clear HM4 HF6 HX N3 N4 n1 n2 lkd lkl lbl la dic ps inp lbq lbi CL y1 y2 y3 y4 y5 y6 hmx1 hmx2;obtain⟨UF,hUF⟩:∃ UF:Nat->List Nd,UF=λx:Nat=>(if k+1<e then [Xi s k pos 2 (((Ze d).map Kk).getD (ix+x) default) (ix+x) (P-pos)] else [])++[Xi s k pos 2 (((Ze d).map Kk).getD (ix+x) default) (ix+x) (E-pos)]:=⟨_,rfl⟩
        have HUF:=Hd hUF;have hUFl:∀ x,(UF x).length<=2:=λx=>by rw[hUF];simp only;split<;>simp
        have HNS:Hid (∀ x,x<=dp->(V2 D s k++KN++(List.range x).flatMap UF).length<=200000000):=λx hx=>by
         have:=N8 UF 2 (List.range x) (λy _=>hUFl y);rw[List.length_range]at this;rw[List.length_append,List.length_append];omega
        have HLE:Hid (e<=rc):=by show e<=rc;rw[<- HDL.out];exact hel2
        have HCP:Hid (k+Lib.runeCount (s.extract pos P)<rc+2):=by
         show _<_;have:=Il hs k (e-1) Om Om;rw[<- HPS.out,<- HEPP.out.2.1]at this;rw[this];have:=HLE.out;omega
        have HCE:Hid (k+Lib.runeCount (s.extract pos E)<rc+2):=by
         show _<_;have:=Il hs k e Om hel2;rw[<- HPS.out,<- HEPP.out.1]at this;rw[this];have:=HLE.out;omega
        have hPE:P+lw=E:=by have:=HEPP.out.2.2;omega
        clear hUF hUFl;go_wp2_with fail
        go_loopg [215] (dp+1) (λg1 v215 wr=>∃ x:Nat,v215=.int .i64 (x:Int)/\x<=dp+1/\dp+1<=x+g1/\Hid (BM d uk kd H V kl g (rc+2) (rc+2) bl br bq bi ba it s k pos (pos+len) (V2 D s k++KN++(List.range x).flatMap UF) AN wr)/\Hid (Fr (λj=>V<=j) w8 wr))
        case atStart=>exact⟨0,rfl,Om,Om,by
         show BM d uk kd H V kl g (rc+2) (rc+2) bl br bq bi ba it s k pos (pos+len) (V2 D s k++KN++(List.range 0).flatMap UF) AN _;rw[show (List.range 0).flatMap UF=[] from rfl,List.append_nil]
         exact HM5.out,HF7⟩
        case round =>
         clear HM5 HF7;obtain⟨x,rfl,hx1,hg2,HMR,HFR⟩:=hrel;by_cases hxl:x<dp+1
         ·have hxz:(x:Int)<(dp:Int)+1:=Om;go_upto_region 43 with fail
          go_cut [21] from 217 to 217 (λv21 wx=>v21=.int .i64 (x:Int)/\wr=wx)
          case first =>
           go_wp2_with fail
           go_meet
           case rel=>exact⟨rfl,rfl⟩
          case rest =>
          obtain⟨rfl,e5⟩:=hcut;subst e5;go_step;refine wp_seq_k λK hK=>?_
          have wix:IntKind.i64.wrap (ix:Int)=(ix:Int):=by rw[IntKind.wrap_i64];omega
          have wsx:IntKind.i64.wrap ((ix:Int)+(x:Int))=(ix:Int)+(x:Int):=by rw[IntKind.wrap_i64];omega
          go_cut [] from 218 to 233 (λwx=>Hid (BM d uk kd H V kl g (rc+2) (rc+2) bl br bq bi ba it s k pos (pos+len) (V2 D s k++KN++(List.range x).flatMap UF++(if k+1<e then [Xi s k pos 2 (((Ze d).map Kk).getD (ix+x) default) (ix+x) (P-pos)] else [])) AN wx)/\Hid (Fr (λj=>V<=j) w8 wx))
          case first =>
           have la:=HMR.out.fix.la;have rp:=HMR.out.fix.rp;have ps:=HMR.out.fix.ps;have inp:=HMR.out.fix.inp;have lbl:=lt_of_cell la;have lbr:=lt_of_cell rp;have lbq:=lt_of_cell ps;have lbi:=lt_of_cell inp;by_cases hke:k+1<e
           ·have hpp:pos<P:=by
             have:=Zma hs ((Om:k<e-1)) Om;rw[<- HPS.out,<- HEPP.out.2.1]at this;exact this
            have hppz:(pos:Int)<(P:Int):=Om;have y1:(0:Int)<=(pos:Int):=Om;have y2:(pos:Int)<=(P:Int):=Om;have y3:(P:Int)<=(s.size:Int):=Om;have hpl:pos+(P-pos)=P:=Om;have C7:=(HMR.out.ext hGV ((Fl wr).drew)).node hr hGV Om (by have:=HNS.out x Om;omega) (((Ze d).map Kk).getD (ix+x) default) (ix+x) (P-pos) (Fy _ Om) Om hsz (by rw[hpl];exact HCP.out) Om;rw[hpl,(Om:((ix+x:Nat):Int)=(ix:Int)+(x:Int))]at C7;have HC7:=Hd C7;clear C7 hpl;go_upto_region 45 with fail
            go_still_tail 12,Kr
            change wpList _ _ _ _ _ wr.drew;go_wp2_with (first|(go_at_call 190;refine HC7.out.mono ?_;rintro e6 w6 ⟨rfl,h1,h2⟩;have H6:=Hd (Ai1 h1 h2);clear h1 h2)|fail)
            go_meet
            case rel =>
             rw[if_pos hke];exact⟨H6.out.1,HFR.out.drew.then H6.out.2⟩
           ·have hpp:P=pos:=by
             rw[HEPP.out.2.1,HPS.out,(Om:e-1=k)]
            have hppz:¬ (pos:Int)<(P:Int):=Om;clear hpp;go_wp2_with fail
            go_meet
            case rel =>
             rw[if_neg hke,List.append_nil];exact⟨HMR,HFR⟩
          case rest =>
          obtain⟨HMS,HFS⟩:=hcut;clear HMR HFR;go_step;generalize wc=ws at HMS HFS⊢;have la:=HMS.out.fix.la;have rp:=HMS.out.fix.rp;have ps:=HMS.out.fix.ps;have inp:=HMS.out.fix.inp;have lbl:=lt_of_cell la;have lbr:=lt_of_cell rp;have lbq:=lt_of_cell ps;have lbi:=lt_of_cell inp;have y1:(0:Int)<=(pos:Int):=Om;have y2:(pos:Int)<=(E:Int):=Om;have y3:(E:Int)<=(s.size:Int):=Om;have hpl:pos+(E-pos)=E:=Om
          have hlt2:(V2 D s k++KN++(List.range x).flatMap UF++(if k+1<e then [Xi s k pos 2 (((Ze d).map Kk).getD (ix+x) default) (ix+x) (P-pos)] else [])).length<=900000000:=by
           have:=HNS.out x Om;rw[List.length_append]
           split<;>simp only[List.length_cons,List.length_nil]<;>omega
          have C7:=(HMS.out.ext hGV ((Fl ws).drew)).node hr hGV Om hlt2 (((Ze d).map Kk).getD (ix+x) default) (ix+x) (E-pos) (Fy _ Om) Om hsz (by rw[hpl];exact HCE.out) Om;rw[hpl,(Om:((ix+x:Nat):Int)=(ix:Int)+(x:Int))]at C7;have HC7:=Hd C7;clear C7 hpl hlt2
          go_still_tail 12,Kr
          change wpList _ _ _ _ _ ws.drew;go_wp2_with (first|(go_at_call 190;refine HC7.out.mono ?_;rintro e6 w6 ⟨rfl,h1,h2⟩;have H6:=Hd (Ai1 h1 h2);clear h1 h2)|fail)
          go_roundg (dp+1-(x+1))
          case measure=>omega
          case rel=>exact⟨x+1,by go_num,Om,Om,by
           show BM d uk kd H V kl g (rc+2) (rc+2) bl br bq bi ba it s k pos (pos+len) (V2 D s k++KN++(List.range (x+1)).flatMap UF) AN _
           have e1:(List.range (x+1)).flatMap UF=(List.range x).flatMap UF++((if k+1<e then [Xi s k pos 2 (((Ze d).map Kk).getD (ix+x) default) (ix+x) (P-pos)] else [])++[Xi s k pos 2 (((Ze d).map Kk).getD (ix+x) default) (ix+x) (E-pos)]):=by
            rw[List.range_succ,List.flatMap_append,List.flatMap_cons,List.flatMap_nil,List.append_nil,HUF.out]
           rw[e1,<- List.append_assoc,<- List.append_assoc]
           exact H6.out.1,HFS.out.drew.then H6.out.2⟩
         ·obtain rfl:x=dp+1:=Om
          have hxz:¬ ((dp+1:Nat):Int)<(dp:Int)+1:=Om;go_wp2_with fail
          go_roundg (rc-(k+1))
          case measure=>omega
          case rel=>exact⟨k+1,Om,Om,by
           have e0:Xl D s (Zd s) k=KN++(List.range (dp+1)).flatMap UF:=by
            have hun:D.unk=(Ze d).map Kk:=by rw[HDD.out];rfl
            unfold Xl;rw[<- HPS.out,if_pos HUN0.out,<- HKN.out,HCH.out,<- HCN.out,if_pos hcond];have e1:Ok D s (Zd s) k=(List.range (D.dup (D.cat (Xa ((Zd s).getD k [])))+1)).flatMap λx=>(if k+1<Wy D (Zd s) k then [Xi s k (bp (Zd s) k) 2 (D.unk.getD (D.idx (D.cat (Xa ((Zd s).getD k [])))+x) default) (D.idx (D.cat (Xa ((Zd s).getD k [])))+x) (bp (Zd s) (Wy D (Zd s) k-1)-bp (Zd s) k)] else [])++[Xi s k (bp (Zd s) k) 2 (D.unk.getD (D.idx (D.cat (Xa ((Zd s).getD k [])))+x) default) (D.idx (D.cat (Xa ((Zd s).getD k [])))+x) (bp (Zd s) (Wy D (Zd s) k)-bp (Zd s) k)]:=rfl
            rw[e1,HCH.out,<- HCN.out,<- HIX.out.1,<- HIX.out.2,<- HE.out.1,<- HPS.out,<- HEPP.out.1,<- HEPP.out.2.1,hun,HUF.out]
           rw[HUP.out.1,HUP.out.2,e0,<- List.append_assoc]
           exact HMR.out.done HNE.out,HFR⟩
       ·have hcb:decide (KN=[]\/D.invoke cN=true)=false:=decide_eq_false hcond;rw[hcb];go_wp2_with fail
        go_roundg (rc-(k+1))
        case measure=>omega
        case rel=>exact⟨k+1,Om,Om,by
         have e:Xl D s (Zd s) k=KN:=by
          unfold Xl;rw[<- HPS.out,if_pos HUN0.out,<- HKN.out,HCH.out,<- HCN.out,if_neg hcond,List.append_nil]
         rw[HUP.out.1,HUP.out.2,e]
         exact HM2.out.done HNE.out,HF4⟩
  ·obtain rfl:k=rc:=Om
   have hbs:bp (Zd s) k=s.size:=(by rw[<- HDL.out,Ln]);have hnx:=λty=>Vz (P:=Tryz.prog) HB.out.x.itr ty ((Om:¬ bp (Zd s) k<s.size))
   clear hbs;go_wp2_with fail
   go_end0
   obtain⟨vs,nb,c1,c2,c3⟩:=HB.out.lat;have e1:V2 D s k=lat D s:=by unfold lat;rw[HRC.out]
   rw[e1,HDD.out]at c1 c3;have hv:=HV.out;rw[<- HRC.out,<- HV.out];exact⟨rfl,g,vs,nb,c1,HF.out.heap HK8.out Om,λj hj=>(by have:=c2 j hj;exact⟨this.1,this.2.1⟩),c3,F8.out.then (HF.out.mono (λj _ e=>.inr e))⟩
end Go.Proofs.YtlfoalomaofejaaGreatDoor
