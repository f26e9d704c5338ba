/- lattice.Build. -/
import Derived.Test.YtlfoalomaofejaaGreatDoorM24
set_option linter.all false
set_option maxRecDepth 100000
set_option maxHeartbeats 4000000
namespace Go.Proofs.YtlfoalomaofejaaGreatDoor
open Go.RowKit DT SS TR LT
theorem Zg4:(Tryz.prog.info? 297).map (λi=>(i.zero,i.size,i.bytes))=some (some (.slice none 0 0),1,24):=Kr
theorem Zg0{w:World}{g R:Nat}(h:w.rowIs g 297 R (λ_=>.slice none 0 0)):Yp w g R (λ_=>.slice none 0 0) [] (λ_=>0) (λ_=>0) (λ_=>none) where
 cell p hp:=⟨h.cell hp,h.frozen p⟩
 row p hp:=by rw[show row [] p=[] from rfl];exact World.ownsRow_nil _ _ _ _
 apart p q _ _ _ j e:=by cases e
 offg p _ e:=by cases e
 node m hm:=by simp at hm
 noff m hm:=by simp at hm
 inj m k hm:=by simp at hm
theorem Ch(d:Zg)(hr:Zl d=true)(hd:Hr d)(uk:Option (Nat×List ByteArray))(kd H U G:Nat)(s:ByteArray)(hs:Rd s)(bt:s.size<=300)(hG:Ts U)(w:World)
  (ap:w.heap[G]?=some (.cells #[.string .empty,.slice none 0 0,.slice none 0 0,.pointer (some ⟨kd,0,none⟩),.pointer (uk.map λx=>⟨x.1,0,none⟩)] 300 (0,0))) (hU:U<=G) (hD:Zz d kd H U w) (fi:∀ x,uk=some x->Ug x.1 x.2 H U w/\Y6 x.2) (hT:U8 w) :
  Calls Tryz.prog 159 #[.pointer (some ⟨G,0,none⟩),.string s] w λe w'=>e=.returned (.tuple #[])/\∃ g vs nb,Yp w' g (Lib.runeCount s+2) vs (lat (Z3 d (uk.map (·.2))) s) nb (λ_=>0) (λ_=>none) /\
   w'.heap[G]?=some (.cells #[.string s,.slice none 0 0,.slice (some ⟨g,0,none⟩) (Lib.runeCount s+2) (Lib.runeCount s+2),.pointer (some ⟨kd,0,none⟩),.pointer (uk.map λx=>⟨x.1,0,none⟩)] 300 (0,0)) /\
   (∀ j,Yz g (Lib.runeCount s+2) vs j->w.heap.size<=j/\j≠G)/\(∀ m,m<(lat (Z3 d (uk.map (·.2))) s).length->w.heap.size<=nb m)/\Fr (λj=>j=G\/w.heap.size<=j) w w':=by
 have mixed:Tryz.prog.follows .mixedOrders=true:=Kr
 have HK:=Hd ap;have H0:=Hd (Ai1 hD (Ai1 fi hT));obtain⟨A,cz⟩:∃ A,A=Lib.runeCount s:=⟨_,rfl⟩;have iw:A<=s.size:=by rw[cz];exact Lib.runeCount_le s
 have C1:=λW=>Sv s W Om
 rw[<- cz]at C1;have bk:=Hd cz;have aa:G<w.heap.size:=(Gs1.1 ap).1;have fe:=aa;clear cz ap hD fi hT;go_enter Tryz.func159,Tryz.ntmps159
 go_upto_region 2 with (first|(go_at_call 162;refine (C1 _).mono ?_;rintro e w1 ⟨rfl,hx⟩;have HX:=Hd hx;clear hx)|fail)
 obtain⟨bl,c9⟩:∃ b,b=w.heap.size:=⟨_,rfl⟩;obtain⟨bi,db⟩:∃ b,b=w.heap.size+1:=⟨_,rfl⟩;have X1:Hid (Zf w w1):=(((Fl w).alloc _).alloc _).then HX.out
 have la:w1.cell? ⟨bl,0,none⟩=some (.pointer (some ⟨G,0,none⟩)):=by
  rw[c9];exact HX.out.cell (((Fe _).alloc _).cell (Yf w #[.pointer (some ⟨G,0,none⟩)] 292 0 _ rfl) id) id
 have inp:w1.cell? ⟨bi,0,none⟩=some (.string s):=by
  rw[db];have:=Yf (w.alloc (.cells #[.pointer (some ⟨G,0,none⟩)] 292)) #[.string s] 9 0 (.string s) rfl;rw[Za]at this;exact HX.out.cell this id
 rw[<- db,<- c9];have HB:=Hd (Ai1 c9 db);have aq:=X1.out.heap HK.out id;have z0:w1.cell? ⟨G,0,none⟩=some (.string .empty):=Zb aq 0 _ rfl;have z2:w1.cell? ⟨G,2,none⟩=some (.slice none 0 0):=Zb aq 2 _ rfl;have f1:=Zi aq;have l1:=lt_of_cell z0;have cu:bl≠G:=Om
 have cv:bi≠G:=Om
 have hf:bl≠bi:=Om
 clear aq c9 db HX;have fq:(0:Int)<(A:Int)+2:=Om
 go_upto_region 4 with fail
 have F1:Hid (Fr (λj=>j=G) w (w1.setCell ⟨G,0,none⟩ (.string s))):=(X1.out.mono (S':=λj=>j=G) (λ_ _ e=>e.elim)).setCell ⟨G,0,none⟩ _ (λ_=>rfl);have G1:Fr (λj=>j=G) w1 (w1.setCell ⟨G,0,none⟩ (.string s)):=(Fl w1).setCell ⟨G,0,none⟩ _ (λ_=>rfl);have la:=G1.cell la cu;have inp:=G1.cell inp cv;have aq:=Yt (X1.out.heap HK.out id) 0 (.string s);have z2:(w1.setCell ⟨G,0,none⟩ (.string s)).cell? ⟨G,2,none⟩=some (.slice none 0 0):=Zb aq 2 _ rfl;have f1:=Zi aq;have l1:=lt_of_cell z2;have eu:=Hd aq;clear z0 aq G1 X1;generalize w1.setCell _ _=w2 at F1 la inp z2 f1 l1 eu⊢;have f4:((A+2:Nat):Int)=(A:Int)+2:=Om
 have hz:∀ W:World,(Instr.makeSlice 298 (.int .i64 0) (.int .i64 ((A:Int)+2))).run Tryz.prog W=.ok (.slice (some ⟨W.heap.size,0,none⟩) 0 (A+2)) (W.alloc (.cells (madeCells #[.slice none 0 0] (A+2)) 297)):=λW=>by
  obtain⟨ii,ie,ig,ek,fu⟩:=info_parts Zg4;rw[<- f4];have:=run_make (P:=Tryz.prog) W 298 297 ii _ Tryz.underlying298 ie ig .i64 .i64 0 (A+2:Nat) Om Om (by rw[fu];omega) Om;have e:((A:Int)+2).toNat=A+2:=Om
  rw[ek]at this;simpa [Value.cells,e] using this
 have Z:=lt_of_cell la;have fs:w2.drew.cell? ⟨bl,0,none⟩=some (.pointer (some ⟨G,0,none⟩)):=la;have g8:IntKind.i64.wrap ((A:Int)+2)=(A:Int)+2:=by rw[IntKind.wrap_i64];omega
 refine Ye 6 7 #[false,false,false,false,false,false,false] (λW=>W.cell? ⟨bl,0,none⟩=some (.pointer (some ⟨G,0,none⟩))) mixed rfl rfl (fs) (λhS=>?_);refine WL.go [(0,36),(1,37),(2,38)] ?_;iterate 3 (refine WL.tk (v:=?_) rfl rfl Kr (λ_ _ _ h=>h) (Or.inl ⟨Rf,?_⟩) (by assumption) ?_;rotate_left;(focus (intro w cl;(try obtain s0:=cl);go_simp;(try with_reducible rfl)));simp only[Act.put,Sa,Sb1,Sc])
 refine WZ.one (i:=3) rfl Kr (by decide) (λK hK=>?_);go_simp;refine hK.out _ _ (((Fe w2).drew.alloc _).cell la id) (λg7=>?_);clear hK K;try simp only[Act.put,Sa,Sb1,Sc]
 refine WL.go [(4,40),(5,41)] ?_;iterate 2 (refine WL.tk (v:=?_) rfl rfl Kr (λ_ _ _ h=>h) (Or.inl ⟨Rf,?_⟩) (by assumption) ?_;rotate_left;(focus (intro w cl;(try obtain s0:=cl);go_simp;(try with_reducible rfl)));simp only[Act.put,Sa,Sb1,Sc])
 refine WZ.last rfl Kr Kr (λK hK=>?_);go_simp;refine hK.out _ _ ?_;clear hK K;have G2:Fr (λj=>j=G) w2 (((w2.setCell ⟨G,2,none⟩ (.slice (some ⟨w2.heap.size,0,none⟩) 0 (A+2))).alloc (.cells (madeCells #[.slice none 0 0] (A+2)) 297)).drew):=(((Fr.refl (λj=>j=G) w2).setCell ⟨G,2,none⟩ _ (λ_=>rfl)).alloc _).drew;obtain⟨g,hg⟩:∃ g,g=w2.heap.size:=⟨_,rfl⟩;have dt:=inp;have la:=G2.cell la cu;have inp:=G2.cell inp cv
 have b7:(((w2.setCell ⟨G,2,none⟩ (.slice (some ⟨w2.heap.size,0,none⟩) 0 (A+2))).alloc (.cells (madeCells #[.slice none 0 0] (A+2)) 297)).drew).heap[G]?=some (.cells #[.string s,.slice none 0 0,.slice (some ⟨g,0,none⟩) 0 (A+2),.pointer (some ⟨kd,0,none⟩),.pointer (uk.map λx=>⟨x.1,0,none⟩)] 300 (0,0)):=by
  rw[hg];have:=Yt eu.out 2 (.slice (some ⟨w2.heap.size,0,none⟩) 0 (A+2));exact ((Fe (w2.setCell ⟨G,2,none⟩ (.slice (some ⟨w2.heap.size,0,none⟩) 0 (A+2)))).alloc (.cells (madeCells #[.slice none 0 0] (A+2)) 297)).heap this id
 have cd:(((w2.setCell ⟨G,2,none⟩ (.slice (some ⟨w2.heap.size,0,none⟩) 0 (A+2))).alloc (.cells (madeCells #[.slice none 0 0] (A+2)) 297)).drew).rowIs g 297 (A+2) (λ_=>.slice none 0 0):=by
  have:=World.rowIs_made (w2.setCell ⟨G,2,none⟩ (.slice (some ⟨w2.heap.size,0,none⟩) 0 (A+2))) (.slice none 0 0) (A+2) 297;rw[hg];have e:(w2.setCell ⟨G,2,none⟩ (.slice (some ⟨w2.heap.size,0,none⟩) 0 (A+2))).heap.size=w2.heap.size:=by simp[World.setCell]
  rw[e]at this;exact this.drew
 have F2:=Hd (F1.out.then G2);have d8:g≠bl:=by have:=Z;simp only at this;omega
 have d9:g≠bi:=by have:=lt_of_cell dt;simp only at this;omega
 have lg:w.heap.size<=g:=by rw[hg];exact F1.out.size
 rw[<- hg]at la inp b7 cd F2⊢;have et:=Hd b7;have ew:=Hd cd;have z2:_:=Zb b7 2 _ rfl;have f2:=Zi b7;clear dt G2 b7 cd hg hz f1 l1 fs eu F1 fq;generalize World.drew (World.alloc (World.setCell w2 _ _) _)=w3 at la inp z2 f2 F2 et ew⊢;go_wp2_with fail
 have Z:=lt_of_cell la;have aa:=lt_of_cell z2;have f3:w3.drew.cell? ⟨bl,0,none⟩=some (.pointer (some ⟨G,0,none⟩))/\w3.drew.cell? ⟨G,2,none⟩=some (.slice (some ⟨g,0,none⟩) 0 (A+2)):=⟨la,z2⟩;have h1:(0:Int)<=(A:Int)+2:=Om
 have h2:(A:Int)+2<=((A+2:Nat):Int):=Om
 have h3:((A:Int)+2).toNat=A+2:=Om
 refine Ye 10 11 #[false,false,false,false,false,false,false,false,false,false,false] (λW=>W.cell? ⟨bl,0,none⟩=some (.pointer (some ⟨G,0,none⟩))/\W.cell? ⟨G,2,none⟩=some (.slice (some ⟨g,0,none⟩) 0 (A+2))) mixed rfl rfl (f3) (λhS=>?_);refine WL.go [(0,42),(1,43),(2,44),(3,45),(4,46),(5,47),(6,48),(7,49),(8,50),(9,51)] ?_;iterate 10 (refine WL.tk (v:=?_) rfl rfl Kr (λ_ _ _ h=>h) (Or.inl ⟨Rf,?_⟩) (by assumption) ?_;rotate_left;(focus (intro w cl;(try obtain⟨s0,s1⟩:=cl);go_simp;(try with_reducible rfl)));simp only[Act.put,Sa,Sb1,Sc])
 refine WZ.last rfl Kr Kr (λK hK=>?_);go_simp;refine hK.out _ _ ?_;clear hK K;have G3:Fr (λj=>j=G) w3 ((w3.setCell ⟨G,2,none⟩ (.slice (some ⟨g,0,none⟩) (A+2) (A+2))).drew):=((Fr.refl (λj=>j=G) w3).setCell ⟨G,2,none⟩ _ (λ_=>rfl)).drew;have bs:g≠G:=Om
 have la:=G3.cell la cu;have inp:=G3.cell inp cv;have dj:=Hd (show ((w3.setCell ⟨G,2,none⟩ (.slice (some ⟨g,0,none⟩) (A+2) (A+2))).drew).heap[G]?=_ from Yt et.out 2 (.slice (some ⟨g,0,none⟩) (A+2) (A+2)));have ev:=Hd (Wa ew.out G3 bs);have F3:=Hd (F2.out.then G3);have z2:_:=Zb dj.out 2 _ rfl;clear G3 et ew F2 f2 f3 h1 h2 h3 hS l1;generalize World.drew (World.setCell w3 _ _)=w4 at la inp z2 dj ev F3⊢;have XD:=λq=>(Fe w4).drewN q
 have f5:Yp (w4.drew) g (A+2) (λ_=>.slice none 0 0) [] (λ_=>0) (λ_=>0) (λ_=>none):=Zg0 ev.out.drew
 have nO:¬ Yz g (A+2) (λ_=>Value.slice none 0 0) G:=by
  rintro (e|⟨p,_,e⟩)
  ·exact bs e.symm
  ·cases e
 have il:s.extract 0 0=ByteArray.empty:=by
  apply ByteArray.ext;rw[ByteArray.data_extract];simp
 have C2:Calls Tryz.prog 190 #[.pointer (some ⟨G,0,none⟩),.int .i64 0,.int .i64 (-1),.int .i64 0,.int .i64 0,.int .i64 0,.string ByteArray.empty] w4.drew λe w'=>e=.returned (.tuple #[])/\∃ al aj,Yp w' g (A+2) al [Qz] aj (λ_=>0) (λ_=>none)/\Fr (Yz g (A+2) (λ_=>Value.slice none 0 0)) w4.drew w'/\(∀ j,Yz g (A+2) al j->Yz g (A+2) (λ_=>Value.slice none 0 0) j\/w4.drew.heap.size<=j)/\∀ m,m<1->w4.heap.size<=aj m:=by
  refine (Uy G g (A+2) (A+2) (λ_=>.slice none 0 0) [] (λ_=>0) Qz 0 w4.drew z2 Om f5 nO (by simp) (.inl ⟨.inl rfl,rfl⟩) (by show ByteArray.empty.size<=_;decide) rfl (by show 0<A+2;omega) ⟨by show 0<=1000000;omega,by show 0<=1000000;omega⟩).mono ?_;rintro e w' ⟨rfl,al,aj,a1,a2,a3,_,a5⟩
  exact⟨rfl,al,aj,a1,a2,a3,λm hm=>by
   have:m=0:=Om;subst this
   exact a5⟩
 have g2:=Hd C2;clear C2 f5 XD;go_wp2_with fail
 go_still_tail 3,Kr
 change wpList _ _ _ _ _ w4.drew;go_upto_region 7 with (first|(go_at_call 190;refine g2.out.mono ?_;rintro e w5 ⟨rfl,bf,hn,a1,a2,a3,a4⟩;have HA:=Hd (Ai1 a1 (Ai1 a2 (Ai1 a3 a4)));clear a1 a2 a3 a4)|fail)
 obtain⟨a1,a2,a3,a4⟩:=HA.out;have lR:0<A+2:=Om
 have ho:G<w.heap.size:=fe;have fl:w.heap.size<=w4.heap.size:=F3.out.size;have dr:=lt_of_cell la;have ds:=lt_of_cell inp;simp only at dr ds
 have eg:∀ d6:Nat->Value,(∀ j,Yz g (A+2) d6 j->Yz g (A+2) (λ_=>Value.slice none 0 0) j\/w4.drew.heap.size<=j)->∀ j,Yz g (A+2) d6 j->w.heap.size<=j/\j≠G/\j≠bl/\j≠bi:=λd6 hv j e=>by
  rcases hv j e with (rfl|⟨p,_,q⟩)|q
  ·exact⟨lg,bs,d8,d9⟩
  ·cases q
  ·have q':w4.heap.size<=j:=q;exact⟨Om,Om,Om,Om⟩
 have fd:∀ j,Yz g (A+2) (λ_=>Value.slice none 0 0) j->j=g:=by
  rintro j (e|⟨p,_,q⟩)
  ·exact e
  ·cases q
 have bj:Fr (λj=>j=g) w4 w5:=((Fr.refl (λj=>j=g) w4).drew).then (a2.mono (λj _ e=>fd j e));have la:=bj.cell la (λe=>d8 e.symm);have inp:=bj.cell inp (λe=>d9 e.symm);have eh:=bj.heap dj.out (λe=>bs e.symm);have z2:_:=Zb eh 2 _ rfl;have gr:=Hd eh;have F5:=Hd ((F3.out.mono (S':=λj=>j=G\/w.heap.size<=j) (λj _ e=>.inl e)).then (bj.mono (S':=λj=>j=G\/w.heap.size<=j) (λj _ e=>.inr (by rw[e];exact lg))));have cp:=Hd (eg bf a3)
 have gf:s.extract A A=ByteArray.empty:=by
  apply ByteArray.ext;rw[ByteArray.data_extract];apply Array.eq_empty_of_size_eq_zero;rw[Array.size_extract];omega
 have fk:w4.heap.size<=w5.heap.size:=bj.size
 have C3:Calls Tryz.prog 190 #[.pointer (some ⟨G,0,none⟩),.int .i64 ((A:Int)+1),.int .i64 (-1),.int .i64 (s.size:Int),.int .i64 (A:Int),.int .i64 0,.string ByteArray.empty] w5.drew λe w'=>e=.returned (.tuple #[])/\∃ al aj,Yp w' g (A+2) al [Qz,Ot s] aj (λ_=>0) (λ_=>none)/\Fr (Yz g (A+2) bf) w5.drew w'/\(∀ j,Yz g (A+2) al j->Yz g (A+2) (λ_=>Value.slice none 0 0) j\/w4.drew.heap.size<=j)/\∀ m,m<2->w4.heap.size<=aj m:=by
  rw[(Om:((A:Int)+1)=((A+1:Nat):Int))];have e1:Ot s=⟨-1,s.size,A,A+1,0,zeroM,.empty⟩:=by unfold Ot;rw[bk.out]
  rw[e1];refine (Uy G g (A+2) (A+2) bf [Qz] hn ⟨-1,s.size,A,A+1,0,zeroM,.empty⟩ (A+1) w5.drew z2 Om (a1.ext (Fl w5).drew) (λe=>(cp.out _ e).2.1 rfl) (by simp) (.inl ⟨.inl rfl,rfl⟩) (by show ByteArray.empty.size<=_;decide) rfl (by show A+1<A+2;omega) ⟨by show s.size<=1000000;omega,by show A<=1000000;omega⟩).mono ?_;rintro e w' ⟨rfl,al,aj,b1,b2,b3,b4,b5⟩;refine⟨rfl,al,aj,b1,b2,λj e=>?_,λm hm=>?_⟩;rotate_left
  ·rcases Nat.lt_or_ge m 1 with z|z
   ·rw[b4 m z];exact a4 m z
   ·have:m=1:=Om;subst this;have jy:w5.heap.size<=aj 1:=b5;omega
  rcases b3 j e with q|q
  ·exact a3 j q
  ·have q':w5.heap.size<=j:=q;exact .inr ((Om:w4.heap.size<=j))
 have gz:=Hd C3;clear C3 a1 a2 a3 a4 bj eh HA g2 nO dj ev fd C1;have gn:=Hd eg;clear eg;have i1:(0:Int)<=(A:Int):=Om
 have i2:(A:Int)<=(s.size:Int):=Om
 have i3:IntKind.i64.wrap ((A:Int)+1)=(A:Int)+1:=by rw[IntKind.wrap_i64];omega
 go_still_tail 10,Kr
 change wpList _ _ _ _ _ w5.drew;go_upto_region 8 with (first|(go_at_call 190;refine gz.out.mono ?_;rintro e w6 ⟨rfl,e7,hh,b1,b2,b3,b4⟩;have g5:=Hd (Ai1 b1 (Ai1 b2 (Ai1 b3 b4)));clear b1 b2 b3 b4)|fail)
 obtain⟨b1,b2,b3,b4⟩:=g5.out;have dz:=gn.out e7 b3;have bS:∀ j,Yz g (A+2) bf j->w.heap.size<=j/\j≠G/\j≠bl/\j≠bi:=cp.out;have cm:Fr (Yz g (A+2) bf) w5 w6:=((Fr.refl (Yz g (A+2) bf) w5).drew).then b2;have F6:=Hd (F5.out.then (cm.mono (S':=λj=>j=G\/w.heap.size<=j) (λj _ e=>.inr (bS j e).1)));have b0:=cm.cell la (λe=>(bS _ e).2.2.1 rfl);have bd:=cm.cell inp (λe=>(bS _ e).2.2.2 rfl);have b6:=cm.heap gr.out (λe=>(bS _ e).2.1 rfl);have dx:=b1.lt lR;have du:w.heap.size<=w6.heap.size:=F6.out.size;have h8:bl<w6.heap.size/\bi<w6.heap.size:=⟨by have:=lt_of_cell b0;simp only at this;omega,by have:=lt_of_cell bd;simp only at this;omega⟩;have fv:(Zd s).length=A:=by rw[<- Tz,bk.out]
 have gb:BH d uk kd H w.heap.size G g (A+2) bl w6.heap.size bi (w6.heap.size+1) s (Ua (Z3 d (uk.map (·.2))) s 0) 0 (bp (Zd s) 0) ((w6.alloc (.cells #[.int .i64 (-1)] 3)).iter s 0):=by
  have X:Zf w6 ((w6.alloc (.cells #[.int .i64 (-1)] 3)).iter s 0):=((Fl w6).alloc _).alloc _;have FT:=F6.out.then (X.mono (S':=λj=>j=G\/w.heap.size<=j) (λ_ _ e=>e.elim));have fz:U<=w.heap.size:=Om
  have hS:∀ b,H<=b->b<U->¬ (b=G\/w.heap.size<=b):=λb _ hb e=>by omega
  refine⟨X.cell b0 id,X.cell bd id,X.cell (Zb b6 2 _ rfl) id,X.cell (Zb b6 3 _ rfl) id,(H0.out.1.keep FT hS).up fz FT.size,⟨X.cell (Zb b6 4 _ rfl) id,λx e=>((H0.out.2.1 x e).1.keep FT hS).up fz,H0.out.2.2.fr FT (λe=>by have:=hG.1;omega) (λe=>by have:=hG.2;omega),?_,?_⟩,⟨e7,hh,b1.ext X,λj e=>?_,λm hm=>(by have:=b4 m hm;omega)⟩,?_⟩
  ·have:=alloc_at (w6.alloc (.cells #[.int .i64 (-1)] 3)) (.stringIter s 0);rw[Za]at this;exact this
  ·exact ((Fe _).alloc _).heap (alloc_at w6 _) id
  ·have h1:=dz j e;have h2:=dx j e;exact⟨Om,h1.2.1,h1.2.2.1,Om,h1.2.2.2,Om⟩
  ·exact⟨⟨Om,Om⟩,Om,Om,Om⟩
 have a8:Hid _:=gb;have gq:Hid (((w6.alloc (.cells #[.int .i64 (-1)] 3)).iter s 0).heap[G]?=some (.cells #[.string s,.slice none 0 0,.slice (some ⟨g,0,none⟩) (A+2) (A+2),.pointer (some ⟨kd,0,none⟩),.pointer (uk.map λx=>⟨x.1,0,none⟩)] 300 (0,0))):=(show Zf w6 ((w6.alloc (.cells #[.int .i64 (-1)] 3)).iter s 0) from ((Fl w6).alloc _).alloc _).heap b6 id;have F8:Hid (Fr (λj=>j=G\/w.heap.size<=j) w ((w6.alloc (.cells #[.int .i64 (-1)] 3)).iter s 0)):=(F6.out.alloc _).alloc _;have bm:Hid ((w.heap.size<=w6.heap.size/\w.heap.size<=w6.heap.size+1)/\w6.heap.size≠G/\w6.heap.size≠bl/\w6.heap.size≠bi):=⟨⟨Om,Om⟩,Om,Om,Om⟩;have dn:Hid (w.heap.size<=w6.heap.size):=du;clear gb dz bS cm dx b6 b0 b1 b2 b3 b4;have inp:=bd;clear bd;go_upto_region 10 with fail
 obtain⟨it,ej⟩:∃ it,it=w6.heap.size+1:=⟨_,rfl⟩;rw[<- ej]at a8 bm⊢;clear h8;generalize w6.heap.size=br at ej a8 bm dn⊢;generalize World.iter (World.alloc w6 _) _ _=w8 at a8 F8 gq⊢;have J:Ts w.heap.size:=⟨by have:=hG.1;omega,by have:=hG.2;omega⟩;have gg:Hid (∀ x,uk=some x->Y6 x.2):=λx e=>(H0.out.2.1 x e).2
 have gv:Hid (w.heap.size<=it):=by show _<=_;have:=dn.out;omega
 have e3:=Hd fv;obtain⟨D,hD⟩:∃ D,D=Z3 d (uk.map (·.2)):=⟨_,rfl⟩;rw[<- hD]at a8;have ae:=Hd hD;try clear z2
 try clear z2
 try clear z2
 clear ej hD fv F6 F5 gr g5 gz HB gn cp HK il gf i1 i2 i3 g8 f4 z2 Z aa bs d8 d9 cu cv hf dr ds fl fk du la inp F3 ho lg f1;have ik:U<=w.heap.size:=Om
 obtain⟨V,hV⟩:∃ V,V=w.heap.size:=⟨_,rfl⟩;rw[<- hV]at a8 F8 gv dn bm J ik;have HV:=Hd hV;clear hV hG
 go_loopg [] A (λg1 wr=>∃ k:Nat,k<=A/\A<=k+g1/\Hid (BH d uk kd H V G g (A+2) bl br bi it s (Ua D s k) k (bp (Zd s) k) wr)/\Hid (Fr (λj=>V<=j) w8 wr))
 case atStart=>exact⟨0,Om,Om,a8,Fl _⟩
 case round =>
  clear a8;obtain⟨k,hk,js,HB,HF⟩:=hrel;by_cases h6:k<A
  ·have ap:k<(Zd s).length:=by rw[e3.out];exact h6
   have hg:=hs _ (List.getElem_mem ap);have bx:0<(Zd s)[k].length:=List.length_pos_iff.2 hg.1.1;have af:=Zdu hs k ap;have ck:=Mw (Zd s) k ap;have jc:=My s (k+1);have ao:=Lib.rune_le s (bp (Zd s) k);rw[af]at ao;have bu:=Zcw hs k ap;obtain⟨ch,bh⟩:∃ ch,ch=(Zd s)[k]:=⟨_,rfl⟩;rw[<- bh]at hg bx af ck ao bu;obtain⟨pos,bv⟩:∃ pos,pos=bp (Zd s) k:=⟨_,rfl⟩;rw[<- bv]at af ck HB;obtain⟨len,bz⟩:∃ len,len=ch.length:=⟨_,rfl⟩;rw[<- bz]at af ck bx bu;obtain⟨r,ec⟩:∃ r,r=Xi ch:=⟨_,rfl⟩;rw[<- ec]at af hg ao bu;have c4:=λty=>Pm (P:=Tryz.prog) HB.out.x.itr ty ((Om:pos<s.size))
   rw[af]at c4;simp only at c4;have p1:pos+len<=s.size:=Om;have rp:=HB.out.rp.1;have fb:=HB.out.rp.2;have dh:=Hd (Ai1 bh (Ai1 bv (Ai1 bz (Ai1 ec (Ai1 ck (Ai1 hg bu))))));have iy:r≠65533:=hg.2;have ea:br<wr.heap.size:=by have:=lt_of_cell rp;simpa using this
   have fI:=Tn wr it s (pos+len);have be:br≠it:=Sw rp HB.out.x.itr;have fc:=fI.cell rp be;have fa:=(fI.frozen rp be).trans fb;have fg:br<(Wi wr it s (pos+len)).heap.size:=by have:=lt_of_cell fc;simpa using this
   clear bh bv bz ec ck hg bu af fI;go_upto_region 13 with fail
   go_cut [8] from 74 to 74 (λv8 wx=>∃ bq ba,v8=.pointer (some ⟨ba,0,none⟩)/\bq=(Wi wr it s (pos+len)).heap.size/\Hid (BM d uk kd H V G g (A+2) (A+2) bl br bq bi ba it s k pos (pos+len) (Ua D s k) false wx)/\Hid (Fr (λj=>V<=j) w8 wx))
   case first =>
    go_wp2_with fail
    go_meet
    case rel =>
     have dg:(Wi wr it s (pos+len)).heap.size=wr.heap.size:=(by simp[Wi]);have es:((Wi wr it s (pos+len)).setCell ⟨br,0,none⟩ (.int .i64 k)).heap.size=wr.heap.size:=by rw[<- dg];simp[World.setCell]
     have fA:Fr (λj=>j=it\/j=br) wr ((Wi wr it s (pos+len)).setCell ⟨br,0,none⟩ (.int .i64 k)):=((Tn wr it s (pos+len)).mono (λj _ e=>.inl e)).setCell ⟨br,0,none⟩ _ (λ_=>.inr rfl);have ek:((Wi wr it s (pos+len)).setCell ⟨br,0,none⟩ (.int .i64 k)).heap[it]?=some (.stringIter s (pos+len)):=((Fr.refl (λj=>j=br) _).setCell ⟨br,0,none⟩ _ (λ_=>rfl)).heap (Pu (pos+len) HB.out.x.itr) (λe=>be e.symm);have ij:=Yt ((Tn wr it s (pos+len)).heap HB.out.x.hbr be) 0 (.int .i64 k)
     have HM:Hid (BM d uk kd H V G g (A+2) (A+2) bl br wr.heap.size bi (wr.heap.size+1) it s k pos (pos+len) (Ua D s k) false ((((Wi wr it s (pos+len)).setCell ⟨br,0,none⟩ (.int .i64 k)).alloc (.cells #[.int .i64 pos] 3)).alloc (.cells #[.bool false] 4))):=by
      have fm:=Yf ((Wi wr it s (pos+len)).setCell ⟨br,0,none⟩ (.int .i64 k)) #[.int .i64 pos] 3 0 (.int .i64 pos) rfl;have dc:=alloc_at (((Wi wr it s (pos+len)).setCell ⟨br,0,none⟩ (.int .i64 k)).alloc (.cells #[.int .i64 pos] 3)) (.cells #[.bool false] 4);rw[Za]at dc;rw[es]at fm dc;have X2:Zf ((Wi wr it s (pos+len)).setCell ⟨br,0,none⟩ (.int .i64 k)) ((((Wi wr it s (pos+len)).setCell ⟨br,0,none⟩ (.int .i64 k)).alloc (.cells #[.int .i64 pos] 3)).alloc (.cells #[.bool false] 4)):=((Fl _).alloc _).alloc _;exact HB.out.begin J (pos+len) pos ((fA.alloc _).alloc _) (X2.heap ek id) (X2.heap ij id) (((Fe _).alloc _).cell fm id) ⟨Zb dc 0 _ rfl,Zi dc 0⟩ ⟨Om,Om,Om⟩ Om
     have bo:Hid (Fr (λj=>V<=j) w8 ((((Wi wr it s (pos+len)).setCell ⟨br,0,none⟩ (.int .i64 k)).alloc (.cells #[.int .i64 pos] 3)).alloc (.cells #[.bool false] 4))) :=
      HF.out.then (((fA.mono (S':=λj=>V<=j) (λj _ e=>(by
       have h1:=dn.out;have h2:=gv.out
       rcases e with rfl|rfl<;>assumption))).alloc _).alloc _)
     refine⟨wr.heap.size,wr.heap.size+1,?_,dg.symm,HM,bo⟩;first|rfl|(rw[dg])|(rw[es])|(rw[Za,es])|(rw[Za,dg])
   case rest =>
   obtain⟨bq,ba,rfl,gd,HM,bo⟩:=hcut;rw[<- gd];clear gd c4 rp fb fc fa fg HB HF ea;go_step;refine wp_seq_k λK hK=>?_
   generalize wc=wq at HM bo⊢
   have iz:(Ua D s k).length<=2+k*400000:=by
    rw[ae.out]
    exact Jy hr hd _ (λks e=>by
     cases uk with
     | none=>cases e
     | some x =>
      have e2:x.2=ks:=by
       have:some x.2=some ks:=e;injection this
      rw[<- e2];exact gg.out x rfl) s bt k Om
   have h9:k<=300:=Om;have fp:pos=bp (Zd s) k:=dh.out.2.1;have ad:=Hd fp;have d0:k<=(Zd s).length:=Om;obtain⟨UN,f0⟩:∃ UN,UN=Us D s k pos:=⟨_,rfl⟩;have cn:=Hd f0;clear f0 fp;have jl:(0:Int)<=(pos:Int):=Om;have jk:(pos:Int)<=(s.size:Int):=Om
   go_cut [] from 75 to 91 (λwx=>Hid (BM d uk kd H V G g (A+2) (A+2) bl br bq bi ba it s k pos (pos+len) (Ua D s k++UN) (decide (0<UN.length)) wx)/\Hid (Fr (λj=>V<=j) w8 wx))
   case first =>
    have la:=HM.out.fix.la;have Z:=lt_of_cell la
    cases uk with
    | none =>
     have usr:wq.cell? ⟨G,4,none⟩=some (.pointer none):=HM.out.x.usr;have aa:=lt_of_cell usr;go_wp2_with fail
     go_meet
     case rel =>
      have e:UN=[]:=by rw[cn.out,ae.out];rfl
      rw[e,List.append_nil];exact⟨HM,bo⟩
    | some x =>
     obtain⟨ku,ks⟩:=x;have usr:wq.cell? ⟨G,4,none⟩=some (.pointer (some ⟨ku,0,none⟩)):=HM.out.x.usr;have aa:=lt_of_cell usr;have inp:=HM.out.fix.inp;have ps:=HM.out.fix.ps;have am:=lt_of_cell inp;have ay:=lt_of_cell ps;obtain⟨gu,nu,mu,c0,c1,ax,_,ca,bw⟩:=HM.out.x.user _ rfl;have ht:=lt_of_cell c0;have co:=Hd (HM.out.ext J ((Fl wq).drew));have C5:=Hd (Fx 192 3 (λ_=>zeroM) gu nu mu ks (λ_ _=>Kr) (gg.out _ rfl) hs bt d0 ad.out (by rw[bk.out]) Om J (λi _=>.inl ⟨rfl,rfl⟩) (λL hL hl O m hm w h=>Zms d hr kd H V G g (A+2) (A+2) bl br bq bi ba s k pos (λ_=>zeroM) (Ua D s k) L hL Om Om hl Om Om co.out.ba.1 O m hm w h) co.out (ax.keep ((Fe wq).drew) id id) ⟨ca.2,bw.2⟩);clear ax ca bw;go_upto_region 15 with fail
     go_still_tail 11,Kr
     change wpList _ _ _ _ _ wq.drew;go_wp2_with (first|(go_at_call 191;refine C5.out.mono ?_;rintro e w5 ⟨rfl,h1,h2⟩;have H5:=Hd (Ai1 h1 h2);clear h1 h2)|fail)
     go_meet
     case rel =>
      have e:UN=Z7 s k pos 3 (λ_=>zeroM) (told ks (s.extract pos s.size)):=by rw[cn.out,ae.out];rfl
      have e2:UN.length=(told ks (s.extract pos s.size)).length:=by rw[e];exact List.length_map _
      rw[e2,e];exact⟨H5.out.1,bo.out.drew.then H5.out.2⟩
   case rest =>
    obtain⟨ah,ey⟩:=hcut;clear HM bo;go_step;refine wp_seq_k λK hK=>?_
    have ab:=ah.out.an.1;have cx:=lt_of_cell ab;have fj:=Gi D s k;have d2:bp (Zd s) (k+1)=pos+len:=dh.out.2.2.2.2.1;have a6:=Hd (Ai1 fj d2);clear fj d2;by_cases bg:0<UN.length
    ·have cy:decide (0<UN.length)=true:=decide_eq_true bg;go_wp2_with fail
     go_roundg (A-(k+1))
     case measure=>omega
     case rel=>exact⟨k+1,Om,Om,by
      have e:Xu D s (Zd s) k=UN:=by
       unfold Xu;rw[<- ad.out,<- cn.out,if_neg (by intro q;rw[q]at bg;simp at bg)]
      rw[a6.out.1,a6.out.2,e]
      exact ah.out.done bm.out,ey⟩
    ·have cy:decide (0<UN.length)=false:=decide_eq_false bg
     have eb:UN=[]:=by
      cases UN with
      | nil=>rfl
      | cons a l=>simp at bg
     have ah:Hid (BM d uk kd H V G g (A+2) (A+2) bl br bq bi ba it s k pos (pos+len) (Ua D s k) false wc):=by
      have:=ah.out;rw[cy,eb,List.append_nil]at this;exact this
     have d4:Hid (Us D s k pos=[]):=by show _=[];rw[<- cn.out,eb]
     rw[cy]at ab;clear cy eb bg cn;go_upto_region 17 with fail
     obtain⟨KN,ga⟩:∃ KN,KN=Vl D s k pos:=⟨_,rfl⟩;have di:=Hd ga;clear ga
     go_cut [] from 93 to 104 (λwx=>Hid (BM d uk kd H V G g (A+2) (A+2) bl br bq bi ba it s k pos (pos+len) (Ua D s k++KN) (decide (0<KN.length)) wx)/\Hid (Fr (λj=>V<=j) w8 wx))
     case first =>
      have la:=ah.out.fix.la;have Z:=lt_of_cell la;have dic:=ah.out.fix.dic;have aa:=lt_of_cell dic;have inp:=ah.out.fix.inp;have ps:=ah.out.fix.ps;have am:=lt_of_cell inp;have ay:=lt_of_cell ps;obtain⟨gu,nu,mu,c0,c1,ax,ca,bw⟩:=ah.out.fix.dict.index;have ht:=lt_of_cell c0;have co:=Hd (ah.out.ext J ((Fl wc).drew));have C5:=Hd (Fx 193 1 (λi=>((Zw d).map Zgy).getD i default) gu nu mu ((Zw d).map GWord.surface) (λ_ _=>Kr) (Oa hr hd) hs bt d0 ad.out (by rw[bk.out]) Om J (λi hi=>Fj i hi) (λL hL hl O m hm w h=>Zmt d hr kd H V G g (A+2) (A+2) bl br bq bi ba s k pos (λi=>((Zw d).map Zgy).getD i default) (Ua D s k) L hL Om Om hl Om Om co.out.ba.1 O m hm w h) co.out (ax.keep ((Fe wc).drew) id id) ⟨ca.2,bw.2⟩);clear ax ca bw ab cx
      go_still_tail 11,Kr
      change wpList _ _ _ _ _ wc.drew;go_wp2_with (first|(go_at_call 191;refine C5.out.mono ?_;rintro e w5 ⟨rfl,h1,h2⟩;have H5:=Hd (Ai1 h1 h2);clear h1 h2)|fail)
      go_meet
      case rel =>
       have e:KN=Z7 s k pos 1 (λi=>((Zw d).map Zgy).getD i default) (told ((Zw d).map GWord.surface) (s.extract pos s.size)):=by rw[di.out,ae.out];rfl
       have e2:KN.length=(told ((Zw d).map GWord.surface) (s.extract pos s.size)).length:=by rw[e];exact List.length_map _
       rw[e2,e];exact⟨H5.out.1,ey.out.drew.then H5.out.2⟩
     case rest =>
      obtain⟨ag,dk⟩:=hcut;clear ah ey ab cx
      have jq:KN.length<=300000:=by
       rw[di.out,ae.out];unfold Vl;rw[List.length_map];have h1:=Ns (Oa hr hd) (s.extract pos s.size);have h2:(s.extract pos s.size).size<=300:=by rw[ByteArray.size_extract];omega
       show (told ((Zw d).map GWord.surface) (s.extract pos s.size)).length<=_;omega
      go_step;generalize wc=wm at ag dk⊢;obtain⟨Y,c8⟩:∃ Y,Y=D.cat r:=⟨_,rfl⟩;have cg:Y<d.classes.length:=by rw[c8,ae.out];exact Hi hr _ r
      have jb:d.classes.length<=12:=(Vb hr).2.2.2.2;have dl:=Hd c8
      have dq:Hid (∀ (q:Nat) (W:World),Zz d kd H V W->q<=1114111->Calls Tryz.prog 194 #[.pointer (some ⟨kd,0,none⟩),.int .i32 q] W λe w'=>e=.returned (.int .u8 (D.cat q:Int))/\w'=W):=λq W hD hq=>by
       obtain⟨cc,z1,z2⟩:=hD.cat;rw[ae.out]
       exact Cy kd cc 65536 65536 (λi=>(Td d.chars i).toNat) q W hq Om Om z1 (λi hi=>by
        show W.cell? ⟨cc,i,none⟩=some (Value.int .u8 (((Td d.chars i).toNat:Nat):Int))
        rw[Zmu hr];exact z2 i hi)
      have C6:=dq.out r wm ag.out.fix.dict ao;rw[<- c8]at C6;have la:=ag.out.fix.la;have Z:=lt_of_cell la;have dic:=ag.out.fix.dic;have aa:=lt_of_cell dic;clear c8;go_upto_region 19 with (first|(go_at_call 194;refine C6.mono ?_;rintro e w5 ⟨rfl,e5⟩;have e5:=e5.symm;subst e5)|fail)
      have ab:=ag.out.an.1;have cx:=lt_of_cell ab;have jg:IntKind.i64.wrap (Y:Int)=(Y:Int):=by rw[IntKind.wrap_i64];omega
      have ju:(0:Int)<=(Y:Int):=Om;have jt:(Y:Int)<(d.classes.length:Int):=Om
      go_cut [125] from 111 to 125 (λe9 wx=>e9=.bool (decide (KN=[]\/D.invoke Y=true))/\wx=wm)
      case first =>
       obtain⟨gi,ci,i1,i2⟩:=ag.out.fix.dict.invoke Y cg
       have b9:D.invoke Y=d.classes[Y].invoke:=by
        rw[ae.out];show (d.classes.getD Y _).invoke=_;rw[List.getD_eq_getElem?_getD,Ge cg];rfl
       have cw:=lt_of_cell i1;have ff:=lt_of_cell i2
       cases de:KN with
       | nil =>
        rw[de]at ab;have ab:wm.cell? ⟨ba,0,none⟩=some (.bool false):=ab;clear b9 i1 i2;go_wp2_with fail
        go_meet
        case rel=>exact⟨by rw[de];simp,rfl⟩
       | cons x l =>
        rw[de]at ab;have ab:wm.cell? ⟨ba,0,none⟩=some (.bool true):=by rw[ab];simp
        have gw:=Hd b9;clear b9;go_wp2_with fail
        go_meet
        case rel=>exact⟨by rw[de,gw.out];simp,rfl⟩
      case rest =>
       obtain⟨rfl,e5⟩:=hcut;subst e5;go_step
       have bh:Xi ((Zd s).getD k [])=r:=by
        rw[List.getD_eq_getElem?_getD,Ge ap];have:=dh.out;rw[this.2.2.2.1,this.1];rfl
       have dm:=Hd bh;clear bh;by_cases ar:KN=[]\/D.invoke Y=true
       ·have en:decide (KN=[]\/D.invoke Y=true)=true:=decide_eq_true ar;rw[en]
        have CR:∀ q,Calls Tryz.prog 195 #[.int .i32 r] (wc.drewN q) λe w'=>e=.returned (.int .i64 (len:Int))/\w'=wc.drewN q:=λq=>by
         rw[<- dh.out.2.2.2.2.2.2];exact Zad r _
        have ps:=ag.out.fix.ps;have ay:=lt_of_cell ps;have jp:((r:Int) != 65533)=true:=by simp;omega
        have d5:IntKind.i64.wrap ((pos:Int)+(len:Int))=(pos:Int)+(len:Int):=by rw[IntKind.wrap_i64];omega
        go_upto_region 22 with fail
        go_quiet ((go_at_call 195;exact Calls.quiet_of_same (CR _)))
        go_upto_region 24 with fail
        obtain⟨AN,gc⟩:∃ AN,AN=decide (0<KN.length):=⟨_,rfl⟩;rw[<- gc]at ag;have au:=Hd (ag.out.ext J ((Fl wc).drewN nq));have cq:=Hd (dk.out.drewN nq);clear ag dk gc CR ps ay la Z dic aa ab cx C6;generalize wc.drewN nq=wn at au cq⊢;obtain⟨q1,ed⟩:∃ q1,q1=pos+len:=⟨_,rfl⟩;rw[(Om:(pos:Int)+(len:Int)=(q1:Int))];have jz:=Hd ed;have gj:Hid (bp (Zd s) (k+1)=q1):=by show _=q1;rw[a6.out.2,ed]
        clear ed d5
        go_cut [11] from 133 to 133 (λct wx=>ct=.int .i64 1/\wn=wx)
        case first =>
         go_wp2_with fail
         go_meet
         case rel=>exact⟨rfl,rfl⟩
        case rest =>
        obtain⟨rfl,e5⟩:=hcut;subst e5;go_step;refine wp_seq_k λK hK=>?_
        obtain⟨e,he⟩:∃ e,e=Vg D (Zd s) k:=⟨_,rfl⟩;obtain⟨M,hM⟩:∃ M:Nat,M=1023:=⟨_,rfl⟩
        have el:e=k+1+(if D.group Y then Vf D.cat Y M ((Zd s).drop (k+1)) else 0):=by
         rw[he,hM];unfold Vg;rw[dm.out,<- dl.out]
        have ih:k+1<=e/\e<=(Zd s).length:=by
         rw[el];have:=Od D.cat Y M ((Zd s).drop (k+1));rw[List.length_drop]at this
         split<;>omega
        have HE:=Hd (Ai1 he el);obtain⟨ja,cf⟩:=ih;clear he el
        go_cut [10,11,12,13,14,15] from 134 to 175 (λd7 ct v12 hc jh ha wx=>d7=.int .i64 (bp (Zd s) e:Int)/\Hid (BM d uk kd H V G g (A+2) (A+2) bl br bq bi ba it s k pos (pos+len) (Ua D s k++KN) AN wx)/\Hid (Fr (λj=>V<=j) w8 wx))
        case first =>
         obtain⟨gi,ci,i1,i2⟩:=au.out.fix.dict.group Y cg
         have cb:D.group Y=d.classes[Y].group:=by
          rw[ae.out];show (d.classes.getD Y _).group=_;rw[List.getD_eq_getElem?_getD,Ge cg];rfl
         have cw:=lt_of_cell i1;have ff:=lt_of_cell i2;have la:=au.out.fix.la;have Z:=lt_of_cell la;have dic:=au.out.fix.dic;have aa:=lt_of_cell dic;have inp:=au.out.fix.inp;have am:=lt_of_cell inp
         cases c7:d.classes[Y].group with
         | false =>
          rw[c7]at i2;go_wp2_with fail
          go_meet
          case rel=>exact⟨by rw[HE.out.2,cb,c7];rw[if_neg (by simp),Nat.add_zero,gj.out],au,cq⟩
         | true =>
          rw[c7]at i2;obtain⟨bb,er⟩:∃ bb,bb=Vf D.cat Y M ((Zd s).drop (k+1)):=⟨_,rfl⟩;have ez:Hid (e=k+1+bb):=by show e=_;rw[HE.out.2,cb,c7,if_pos rfl,er]
          have im:=Hd er;clear cb er;go_upto_region 26 with fail
          go_quiet (fail)
          go_wp2_with fail
          have ac:=Hd (au.out.ext J ((Fl wn).drewN nq));have a7:=Hd (cq.out.drewN nq);clear i1 i2 cw ff la Z dic aa inp am au cq;generalize wn.drewN nq=wg at ac a7⊢
          go_loopg [10,11,12,13,15] M (λg1 d7 ct v12 hc ha wr=>∃ j i:Nat,d7=.int .i64 (i:Int)/\v12=.int .i64 (i:Int)/\ct=.int .i64 ((j:Int)+1)/\j<M/\M<=j+g1/\k+1+j<=(Zd s).length/\Hid (i=bp (Zd s) (k+1+j))/\Hid (j+Vf D.cat Y (M-j) ((Zd s).drop (k+1+j))=bb)/\Hid (BM d uk kd H V G g (A+2) (A+2) bl br bq bi ba it s k pos (pos+len) (Ua D s k++KN) AN wr)/\Hid (Fr (λj=>V<=j) w8 wr))
          case atStart=>exact⟨0,q1,rfl,rfl,rfl,Om,Om,Om,gj.out.symm,by show 0+Vf D.cat Y (M-0) ((Zd s).drop (k+1+0))=bb;rw[im.out,Nat.zero_add,Nat.sub_zero,Nat.add_zero],ac,a7⟩
          case round =>
           clear ac a7;obtain⟨j,i,rfl,rfl,rfl,hj,cd,jr,HI,HJ,I,av⟩:=hrel;have ib:=My s (k+1+j);rw[<- HI.out]at ib;by_cases b8:k+1+j<(Zd s).length
           ·have d1:=Zm8 hs b8 (Nl _);rw[L4,<- HI.out]at d1;have hu:(i:Int)<(s.size:Int):=Om;have jj:(0:Int)<=(i:Int):=Om;have ji:(i:Int)<=(s.size:Int):=Om;have inp:=I.out.fix.inp;have am:=lt_of_cell inp;have la:=I.out.fix.la;have dic:=I.out.fix.dic;have CD:=Zmo (s.extract i s.size) wr I.out.x.u8;have fw:Lib.decodeGo (s.extract i s.size)=(Xi (Zd s)[k+1+j],(Zd s)[k+1+j].length):=by rw[HI.out];exact Zki hs _ b8
            rw[fw]at CD;have aw:=Lib.rune_le s (bp (Zd s) (k+1+j));rw[Zdu hs _ b8]at aw;have cj:=Mw (Zd s) (k+1+j) b8;have c6:=Zjt D.cat Y (M-(j+1)) (Zd s) (k+1+j) b8;rw[(Om:M-(j+1)+1=M-j)]at c6;have eo:=My s (k+1+j+1);obtain⟨c2,fy⟩:∃ c2,c2=Xi (Zd s)[k+1+j]:=⟨_,rfl⟩;obtain⟨w2,fh⟩:∃ w2,w2=(Zd s)[k+1+j].length:=⟨_,rfl⟩;rw[<- fy]at CD aw c6;rw[<- fh]at CD cj;have fu:i+w2<=s.size:=by rw[HI.out];omega
            have cr:=Hd (Ai1 cj c6);have je:IntKind.i64.wrap ((i:Int)+(w2:Int))=(i:Int)+(w2:Int):=by rw[IntKind.wrap_i64];omega
            clear cj c6 eo fw d1 fy fh;by_cases ak:D.cat c2=Y
            ·have fx:((D.cat c2:Int) != (Y:Int))=false:=(by simp[ak]);by_cases h7:j+1=M
             ·have h5:(1024:Int)<=(j:Int)+1+1:=Om
              go_wp2_with (first
               | (go_at_call 196;refine CD.mono ?_;rintro e5 w5 ⟨rfl,hx⟩;have HX:=Hd hx;have la:=hx.cell la id;have dic:=hx.cell dic id;have Z:=lt_of_cell la;have aa:=lt_of_cell dic;clear hx)
               | (go_at_call 194;refine (dq.out c2 _ (I.out.ext J HX.out).fix.dict aw).mono ?_;rw[ak];rintro e6 w6 ⟨rfl,e6⟩;subst e6)
               | fail)
              go_meet
              case rel=>exact⟨by
               have h1:=HJ.out;rw[cr.out.2,if_pos ak]at h1
               have h0:Vf D.cat Y (M-(j+1)) ((Zd s).drop (k+1+j+1))=0:=by
                rw[(Om:M-(j+1)=0)];simp only[Vf]
               rw[h0]at h1;have h2:=cr.out.1;have h3:=HI.out;rw[ez.out,(Om:k+1+bb=k+1+j+1),h2,<- h3]
               go_num,I.out.ext J HX.out,av.out.ext HX.out⟩
             ·have h5:¬ (1024:Int)<=(j:Int)+1+1:=Om
              go_wp2_with (first
               | (go_at_call 196;refine CD.mono ?_;rintro e5 w5 ⟨rfl,hx⟩;have HX:=Hd hx;have la:=hx.cell la id;have dic:=hx.cell dic id;have Z:=lt_of_cell la;have aa:=lt_of_cell dic;clear hx)
               | (go_at_call 194;refine (dq.out c2 _ (I.out.ext J HX.out).fix.dict aw).mono ?_;rw[ak];rintro e6 w6 ⟨rfl,e6⟩;subst e6)
               | fail)
              go_roundg (M-(j+1))
              case measure=>omega
              case rel=>exact⟨j+1,i+w2,by go_num,by go_num,by go_num,Om,Om,Om,by
               show i+w2=_
               rw[(Om:k+1+(j+1)=k+1+j+1),cr.out.1,HI.out],by
               have h1:=HJ.out;rw[cr.out.2,if_pos ak]at h1;show j+1+Vf D.cat Y (M-(j+1)) ((Zd s).drop (k+1+(j+1)))=bb;rw[(Om:k+1+(j+1)=k+1+j+1)]
               omega,I.out.ext J HX.out,av.out.ext HX.out⟩
            ·have fx:((D.cat c2:Int) != (Y:Int))=true:=by simp;omega
             go_wp2_with (first
              | (go_at_call 196;refine CD.mono ?_;rintro e5 w5 ⟨rfl,hx⟩;have HX:=Hd hx;have la:=hx.cell la id;have dic:=hx.cell dic id;have Z:=lt_of_cell la;have aa:=lt_of_cell dic;clear hx)
              | (go_at_call 194;refine (dq.out c2 _ (I.out.ext J HX.out).fix.dict aw).mono ?_;rintro e6 w6 ⟨rfl,e6⟩;subst e6)
              | fail)
             go_meet
             case rel=>exact⟨by
              have h1:=HJ.out;rw[cr.out.2,if_neg ak,Nat.add_zero]at h1
              rw[ez.out,<- h1,<- HI.out],I.out.ext J HX.out,av.out.ext HX.out⟩
           ·have ia:k+1+j=(Zd s).length:=Om;have ic:i=s.size:=(by rw[HI.out,ia,L4]);have hu:¬ (i:Int)<(s.size:Int):=Om;have inp:=I.out.fix.inp;have am:=lt_of_cell inp;clear ic;go_wp2_with fail
            go_meet
            case rel=>exact⟨by
             have h1:=HJ.out;rw[Zmf _ _ _ _ _ Om,Nat.add_zero]at h1
             rw[ez.out,<- h1,<- HI.out],I,av⟩
        case rest =>
        obtain⟨rfl,ac,a7⟩:=hcut;clear au cq;go_step;refine wp_seq_k λK hK=>?_
        generalize wc=wm at ac a7⊢;obtain⟨E,hE⟩:∃ E,E=bp (Zd s) e:=⟨_,rfl⟩;obtain⟨P,hP⟩:∃ P,P=bp (Zd s) (e-1):=⟨_,rfl⟩;have ce:e-1<(Zd s).length:=Om;have bc:=Zl8 hs k e Om cf;have df:=Mw (Zd s) (e-1) ce;rw[(Om:e-1+1=e)]at df;obtain⟨lc,c5⟩:∃ lc,lc=Xi (Zd s)[e-1]:=⟨_,rfl⟩;obtain⟨lw,ef⟩:∃ lw,lw=(Zd s)[e-1].length:=⟨_,rfl⟩;have i7:lc≠65533:=by rw[c5];exact (hs _ (List.getElem_mem ce)).2
        have i8:lc<=1114111:=by
         have:=Lib.rune_le s (bp (Zd s) (e-1));rw[Zdu hs _ ce]at this;rw[c5];exact this
        rw[<- c5,<- ef]at bc;rw[<- hE,<- hP,<- ef]at df;rw[<- hE,<- ad.out]at bc;have jx:E<=s.size:=by rw[hE];exact My s e
        have jv:pos<=P:=by rw[ad.out,hP];exact Mx _ Om
        have CL:=λW (hT:U8 W)=>Zbw (s.extract pos E) W (by rw[ByteArray.size_extract];omega) hT
        rw[bc]at CL;rw[<- hE];have ai:=Hd (Ai1 hE (Ai1 hP df));have ps:=ac.out.fix.ps;have inp:=ac.out.fix.inp;have ay:=lt_of_cell ps;have am:=lt_of_cell inp;have y1:(0:Int)<=(pos:Int):=Om;have y2:(pos:Int)<=(E:Int):=Om;have y3:(E:Int)<=(s.size:Int):=Om;have y4:((lc:Int) != 65533)=true:=by simp;omega
        have y5:IntKind.i64.wrap ((E:Int)-(lw:Int))=(P:Int):=by rw[IntKind.wrap_i64];omega
        have y6:(E:Int)-(lw:Int)=(P:Int):=Om;clear bc c5 ef df hE hP
        go_cut [16] from 176 to 176 (λg9 wx=>g9=.int .i64 (pos:Int)/\wm=wx)
        case first =>
         go_wp2_with fail
         go_meet
         case rel=>exact⟨rfl,rfl⟩
        case rest =>
        obtain⟨rfl,e5⟩:=hcut;subst e5;go_step;have CL:=CL wm ac.out.x.u8;obtain⟨mi,md,n1,n2,n3,n4⟩:=ac.out.fix.dict.maps;have ee:=Me hr (uk.map (·.2)) Y cg;rw[<- ae.out]at ee;obtain⟨ix,ei⟩:∃ ix,ix=D.idx Y:=⟨_,rfl⟩;obtain⟨dp,em⟩:∃ dp,dp=D.dup Y:=⟨_,rfl⟩;rw[<- ei,<- em]at ee;obtain⟨dw,dv,i6⟩:=ee;have gs:=Hd (Ai1 ei em);have jo:(Ze d).length<=1000:=by rw[Wo];exact hd.unk
        have la:=ac.out.fix.la;have dic:=ac.out.fix.dic;have iv:IntKind.i32.wrap (Y:Int)=(Y:Int):=by rw[IntKind.wrap_i32];omega
        have iu:IntKind.i64.wrap (dp:Int)=(dp:Int):=by rw[IntKind.wrap_i64];omega
        have iq:IntKind.i64.wrap ((dp:Int)+1)=(dp:Int)+1:=by rw[IntKind.wrap_i64];omega
        clear ei em
        go_upto_block 4 with (first
         | (go_at_call 197;refine CL.mono ?_;rintro e6 w6 ⟨rfl,hx⟩;have HX:=Hd hx;have la:=hx.cell la id;have dic:=hx.cell dic id;have n1:=hx.cell n1 id;have n2:=hx.cell n2 id;have N3:=Hd (n3.keep hx id);have N4:=Hd (n4.keep hx id);have Z:=lt_of_cell la;have aa:=lt_of_cell dic;have cw:=lt_of_cell n1;clear hx n3 n4)
         | (at_lookup;refine Zk rfl _ _ false rfl T9 Tryz.underlying100 Tryz.underlying21 (Rb _) rfl N3.out (Y:Int) rfl ?_;simp only[Bool.false_eq_true,if_false,dw])
         | (at_lookup;refine Zk rfl _ _ false rfl T9 Tryz.underlying100 Tryz.underlying21 (Rb _) rfl N4.out (Y:Int) rfl ?_;simp only[Bool.false_eq_true,if_false,dv])
         | fail)
        have gm:=Hd (ac.out.ext J HX.out);have gy:=Hd (a7.out.ext HX.out);clear ac a7 HX N3 N4 n1 n2 cw aa Z la dic ps inp ay am CL y1 y2 y3 y4 y5 y6 dw dv;obtain⟨UF,ep⟩:∃ UF:Nat->List Nd,UF=λx:Nat=>(if k+1<e then [Xq s k pos 2 (((Ze d).map Jc).getD (ix+x) default) (ix+x) (P-pos)] else [])++[Xq s k pos 2 (((Ze d).map Jc).getD (ix+x) default) (ix+x) (E-pos)]:=⟨_,rfl⟩
        have gh:=Hd ep;have d3:∀ x,(UF x).length<=2:=λx=>by rw[ep];simp only;split<;>simp
        have gl:Hid (∀ x,x<=dp->(Ua D s k++KN++(List.range x).flatMap UF).length<=200000000):=λx hx=>by
         have:=Mr UF 2 (List.range x) (λy _=>d3 y);rw[List.length_range]at this;rw[List.length_append,List.length_append];omega
        have gp:Hid (e<=A):=by show e<=A;rw[<- e3.out];exact cf
        have io:Hid (k+Lib.runeCount (s.extract pos P)<A+2):=by
         show _<_;have:=Hc hs k (e-1) Om Om;rw[<- ad.out,<- ai.out.2.1]at this;rw[this];have:=gp.out;omega
        have ip:Hid (k+Lib.runeCount (s.extract pos E)<A+2):=by
         show _<_;have:=Hc hs k e Om cf;rw[<- ad.out,<- ai.out.1]at this;rw[this];have:=gp.out;omega
        have jw:P+lw=E:=by have:=ai.out.2.2;omega
        clear ep d3;go_wp2_with fail
        go_loopg [215] (dp+1) (λg1 e8 wr=>∃ x:Nat,e8=.int .i64 (x:Int)/\x<=dp+1/\dp+1<=x+g1/\Hid (BM d uk kd H V G g (A+2) (A+2) bl br bq bi ba it s k pos (pos+len) (Ua D s k++KN++(List.range x).flatMap UF) AN wr)/\Hid (Fr (λj=>V<=j) w8 wr))
        case atStart=>exact⟨0,rfl,Om,Om,by
         show BM d uk kd H V G g (A+2) (A+2) bl br bq bi ba it s k pos (pos+len) (Ua D s k++KN++(List.range 0).flatMap UF) AN _;rw[show (List.range 0).flatMap UF=[] from rfl,List.append_nil]
         exact gm.out,gy⟩
        case round =>
         clear gm gy;obtain⟨x,rfl,jn,cd,I,av⟩:=hrel;by_cases jm:x<dp+1
         ·have hw:(x:Int)<(dp:Int)+1:=Om;go_upto_region 43 with fail
          go_cut [21] from 217 to 217 (λv21 wx=>v21=.int .i64 (x:Int)/\wr=wx)
          case first =>
           go_wp2_with fail
           go_meet
           case rel=>exact⟨rfl,rfl⟩
          case rest =>
          obtain⟨rfl,e5⟩:=hcut;subst e5;go_step;refine wp_seq_k λK hK=>?_
          have jf:IntKind.i64.wrap (ix:Int)=(ix:Int):=by rw[IntKind.wrap_i64];omega
          have jd:IntKind.i64.wrap ((ix:Int)+(x:Int))=(ix:Int)+(x:Int):=by rw[IntKind.wrap_i64];omega
          go_cut [] from 218 to 233 (λwx=>Hid (BM d uk kd H V G g (A+2) (A+2) bl br bq bi ba it s k pos (pos+len) (Ua D s k++KN++(List.range x).flatMap UF++(if k+1<e then [Xq s k pos 2 (((Ze d).map Jc).getD (ix+x) default) (ix+x) (P-pos)] else [])) AN wx)/\Hid (Fr (λj=>V<=j) w8 wx))
          case first =>
           have la:=I.out.fix.la;have rp:=I.out.fix.rp;have ps:=I.out.fix.ps;have inp:=I.out.fix.inp;have Z:=lt_of_cell la;have ea:=lt_of_cell rp;have ay:=lt_of_cell ps;have am:=lt_of_cell inp;by_cases ft:k+1<e
           ·have fo:pos<P:=by
             have:=Zm8 hs ((Om:k<e-1)) Om;rw[<- ad.out,<- ai.out.2.1]at this;exact this
            have fn:(pos:Int)<(P:Int):=Om;have y1:(0:Int)<=(pos:Int):=Om;have y2:(pos:Int)<=(P:Int):=Om;have y3:(P:Int)<=(s.size:Int):=Om;have az:pos+(P-pos)=P:=Om;have C7:=(I.out.ext J ((Fl wr).drew)).node hr J Om (by have:=gl.out x Om;omega) (((Ze d).map Jc).getD (ix+x) default) (ix+x) (P-pos) (Ev _ Om) Om bt (by rw[az];exact io.out) Om;rw[az,(Om:((ix+x:Nat):Int)=(ix:Int)+(x:Int))]at C7;have e4:=Hd C7;clear C7 az;go_upto_region 45 with fail
            go_still_tail 12,Kr
            change wpList _ _ _ _ _ wr.drew;go_wp2_with (first|(go_at_call 190;refine e4.out.mono ?_;rintro e6 w6 ⟨rfl,h1,h2⟩;have H6:=Hd (Ai1 h1 h2);clear h1 h2)|fail)
            go_meet
            case rel =>
             rw[if_pos ft];exact⟨H6.out.1,av.out.drew.then H6.out.2⟩
           ·have fo:P=pos:=by
             rw[ai.out.2.1,ad.out,(Om:e-1=k)]
            have fn:¬ (pos:Int)<(P:Int):=Om;clear fo;go_wp2_with fail
            go_meet
            case rel =>
             rw[if_neg ft,List.append_nil];exact⟨I,av⟩
          case rest =>
          obtain⟨bn,gx⟩:=hcut;clear I av;go_step;generalize wc=ws at bn gx⊢;have la:=bn.out.fix.la;have rp:=bn.out.fix.rp;have ps:=bn.out.fix.ps;have inp:=bn.out.fix.inp;have Z:=lt_of_cell la;have ea:=lt_of_cell rp;have ay:=lt_of_cell ps;have am:=lt_of_cell inp;have y1:(0:Int)<=(pos:Int):=Om;have y2:(pos:Int)<=(E:Int):=Om;have y3:(E:Int)<=(s.size:Int):=Om;have az:pos+(E-pos)=E:=Om
          have dy:(Ua D s k++KN++(List.range x).flatMap UF++(if k+1<e then [Xq s k pos 2 (((Ze d).map Jc).getD (ix+x) default) (ix+x) (P-pos)] else [])).length<=900000000:=by
           have:=gl.out x Om;rw[List.length_append]
           split<;>simp only[List.length_cons,List.length_nil]<;>omega
          have C7:=(bn.out.ext J ((Fl ws).drew)).node hr J Om dy (((Ze d).map Jc).getD (ix+x) default) (ix+x) (E-pos) (Ev _ Om) Om bt (by rw[az];exact ip.out) Om;rw[az,(Om:((ix+x:Nat):Int)=(ix:Int)+(x:Int))]at C7;have e4:=Hd C7;clear C7 az dy
          go_still_tail 12,Kr
          change wpList _ _ _ _ _ ws.drew;go_wp2_with (first|(go_at_call 190;refine e4.out.mono ?_;rintro e6 w6 ⟨rfl,h1,h2⟩;have H6:=Hd (Ai1 h1 h2);clear h1 h2)|fail)
          go_roundg (dp+1-(x+1))
          case measure=>omega
          case rel=>exact⟨x+1,by go_num,Om,Om,by
           show BM d uk kd H V G g (A+2) (A+2) bl br bq bi ba it s k pos (pos+len) (Ua D s k++KN++(List.range (x+1)).flatMap UF) AN _
           have e1:(List.range (x+1)).flatMap UF=(List.range x).flatMap UF++((if k+1<e then [Xq s k pos 2 (((Ze d).map Jc).getD (ix+x) default) (ix+x) (P-pos)] else [])++[Xq s k pos 2 (((Ze d).map Jc).getD (ix+x) default) (ix+x) (E-pos)]):=by
            rw[List.range_succ,List.flatMap_append,List.flatMap_cons,List.flatMap_nil,List.append_nil,gh.out]
           rw[e1,<- List.append_assoc,<- List.append_assoc]
           exact H6.out.1,gx.out.drew.then H6.out.2⟩
         ·obtain rfl:x=dp+1:=Om
          have hw:¬ ((dp+1:Nat):Int)<(dp:Int)+1:=Om;go_wp2_with fail
          go_roundg (A-(k+1))
          case measure=>omega
          case rel=>exact⟨k+1,Om,Om,by
           have e0:Xu D s (Zd s) k=KN++(List.range (dp+1)).flatMap UF:=by
            have hy:D.unk=(Ze d).map Jc:=by rw[ae.out];rfl
            unfold Xu;rw[<- ad.out,if_pos d4.out,<- di.out,dm.out,<- dl.out,if_pos ar];have e1:Oy D s (Zd s) k=(List.range (D.dup (D.cat (Xi ((Zd s).getD k [])))+1)).flatMap λx=>(if k+1<Vg D (Zd s) k then [Xq s k (bp (Zd s) k) 2 (D.unk.getD (D.idx (D.cat (Xi ((Zd s).getD k [])))+x) default) (D.idx (D.cat (Xi ((Zd s).getD k [])))+x) (bp (Zd s) (Vg D (Zd s) k-1)-bp (Zd s) k)] else [])++[Xq s k (bp (Zd s) k) 2 (D.unk.getD (D.idx (D.cat (Xi ((Zd s).getD k [])))+x) default) (D.idx (D.cat (Xi ((Zd s).getD k [])))+x) (bp (Zd s) (Vg D (Zd s) k)-bp (Zd s) k)]:=rfl
            rw[e1,dm.out,<- dl.out,<- gs.out.1,<- gs.out.2,<- HE.out.1,<- ad.out,<- ai.out.1,<- ai.out.2.1,hy,gh.out]
           rw[a6.out.1,a6.out.2,e0,<- List.append_assoc]
           exact I.out.done bm.out,av⟩
       ·have en:decide (KN=[]\/D.invoke Y=true)=false:=decide_eq_false ar;rw[en];go_wp2_with fail
        go_roundg (A-(k+1))
        case measure=>omega
        case rel=>exact⟨k+1,Om,Om,by
         have e:Xu D s (Zd s) k=KN:=by
          unfold Xu;rw[<- ad.out,if_pos d4.out,<- di.out,dm.out,<- dl.out,if_neg ar,List.append_nil]
         rw[a6.out.1,a6.out.2,e]
         exact ag.out.done bm.out,dk⟩
  ·obtain rfl:k=A:=Om
   have cj:bp (Zd s) k=s.size:=(by rw[<- e3.out,L4]);have c4:=λty=>V4 (P:=Tryz.prog) HB.out.x.itr ty ((Om:¬ bp (Zd s) k<s.size))
   clear cj;go_wp2_with fail
   go_end0
   obtain⟨vs,nb,c1,c2,c3⟩:=HB.out.lat;have e1:Ua D s k=lat D s:=by unfold lat;rw[bk.out]
   rw[e1,ae.out]at c1 c3;have hv:=HV.out;rw[<- bk.out,<- HV.out];exact⟨rfl,g,vs,nb,c1,HF.out.heap gq.out Om,λj hj=>(by have:=c2 j hj;exact⟨this.1,this.2.1⟩),c3,F8.out.then (HF.out.mono (λj _ e=>.inr e))⟩
end Go.Proofs.YtlfoalomaofejaaGreatDoor
