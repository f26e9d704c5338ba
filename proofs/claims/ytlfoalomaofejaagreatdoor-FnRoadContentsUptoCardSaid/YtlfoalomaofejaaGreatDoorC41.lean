/- The methods of tokens: String. -/
import Derived.Test.YtlfoalomaofejaaGreatDoorC40
import Derived.Lib.ItoaLen
set_option linter.all false
set_option maxRecDepth 100000
set_option maxHeartbeats 4000000
namespace Go.Proofs.YtlfoalomaofejaaGreatDoor
section
open Go.RowKit DT SS TR LT Go
def I2(n:Int):ByteArray:=⟨(Lib.itoa n).toArray⟩
def tx3(idx:Nat)(id:Int)(cls pos st fi:Nat)(sf:ByteArray):ByteArray:=(I2 (idx:Int))++⟨#[58]⟩
def tx7(idx:Nat)(id:Int)(cls pos st fi:Nat)(sf:ByteArray):ByteArray:=(tx3 idx id cls pos st fi sf)++(strOfNums (Lib.quoteZ Lib.goPrintTabs sf))
def tx8(idx:Nat)(id:Int)(cls pos st fi:Nat)(sf:ByteArray):ByteArray:=(tx7 idx id cls pos st fi sf)++⟨#[32,40]⟩
def Ze6(idx:Nat)(id:Int)(cls pos st fi:Nat)(sf:ByteArray):ByteArray:=(tx8 idx id cls pos st fi sf)++(I2 (pos:Int))
def Ze5(idx:Nat)(id:Int)(cls pos st fi:Nat)(sf:ByteArray):ByteArray:=(Ze6 idx id cls pos st fi sf)++⟨#[58,32]⟩
def Ze4(idx:Nat)(id:Int)(cls pos st fi:Nat)(sf:ByteArray):ByteArray:=(Ze5 idx id cls pos st fi sf)++(I2 (st:Int))
def Ze3(idx:Nat)(id:Int)(cls pos st fi:Nat)(sf:ByteArray):ByteArray:=(Ze4 idx id cls pos st fi sf)++⟨#[44,32]⟩
def Ze2(idx:Nat)(id:Int)(cls pos st fi:Nat)(sf:ByteArray):ByteArray:=(Ze3 idx id cls pos st fi sf)++(I2 (fi:Int))
def Ze1(idx:Nat)(id:Int)(cls pos st fi:Nat)(sf:ByteArray):ByteArray:=(Ze2 idx id cls pos st fi sf)++⟨#[41,32]⟩
def Ze0(idx:Nat)(id:Int)(cls pos st fi:Nat)(sf:ByteArray):ByteArray:=(Ze1 idx id cls pos st fi sf)++(Ye cls)
def Zez(idx:Nat)(id:Int)(cls pos st fi:Nat)(sf:ByteArray):ByteArray:=(Ze0 idx id cls pos st fi sf)++⟨#[32,91]⟩
def Zey(idx:Nat)(id:Int)(cls pos st fi:Nat)(sf:ByteArray):ByteArray:=(Zez idx id cls pos st fi sf)++(I2 id)
def Zka(idx:Nat)(id:Int)(cls pos st fi:Nat)(sf:ByteArray):ByteArray:=(Zey idx id cls pos st fi sf)++⟨#[93]⟩
def Yf(idx:Nat)(id:Int)(pos st fi:Nat)(sf:ByteArray):Prop:=idx<=1000000000/\(-1<=id/\id<=1000000)/\pos<=1000000000/\st<=1000000000/\fi<=1000000000/\sf.size<=1000
theorem Vh(n:Int)(h0:-1<=n)(h1:n<=1000000000):(I2 n).size<=21:=by
 have:=Lib.itoa_length_le n Om Om;unfold I2;simpa [ByteArray.size] using this
theorem Lz(s:ByteArray)(h:s.size<=1000):(strOfNums (Lib.quoteZ Lib.goPrintTabs s)).size<=10002:=by
 have:=Lib.quoteZ_length_le Lib.goPrintTabs s;rw[strOfNums_size];omega
theorem Mc(c:Nat):(Ye c).size<=7:=by
 unfold Ye
 split
 ·decide
 split
 ·decide
 split
 ·decide
 split<;>decide
theorem Bb{idx:Nat}{id:Int}{cls pos st fi:Nat}{sf:ByteArray}(h:Yf idx id pos st fi sf):(tx3 idx id cls pos st fi sf).size<=22:=by
 unfold tx3;have:=Vh (idx:Int) (by have:=h;unfold Yf at this;omega) (by have:=h;unfold Yf at this;omega);simp only[ByteArray.size_append];have e:(⟨#[58]⟩:ByteArray).size=1:=rfl;omega
theorem Ba{idx:Nat}{id:Int}{cls pos st fi:Nat}{sf:ByteArray}(h:Yf idx id pos st fi sf):(tx7 idx id cls pos st fi sf).size<=10024:=by
 unfold tx7;have:=Bb (cls:=cls) h;have:=Lz sf h.2.2.2.2.2;simp only[ByteArray.size_append];omega
theorem C9{idx:Nat}{id:Int}{cls pos st fi:Nat}{sf:ByteArray}(h:Yf idx id pos st fi sf):(tx8 idx id cls pos st fi sf).size<=10026:=by
 unfold tx8;have:=Ba (cls:=cls) h;simp only[ByteArray.size_append];have e:(⟨#[32,40]⟩:ByteArray).size=2:=rfl;omega
theorem Hs{idx:Nat}{id:Int}{cls pos st fi:Nat}{sf:ByteArray}(h:Yf idx id pos st fi sf):(Ze6 idx id cls pos st fi sf).size<=10047:=by
 unfold Ze6;have:=C9 (cls:=cls) h;have:=Vh (pos:Int) (by have:=h;unfold Yf at this;omega) (by have:=h;unfold Yf at this;omega);simp only[ByteArray.size_append];omega
theorem Hr{idx:Nat}{id:Int}{cls pos st fi:Nat}{sf:ByteArray}(h:Yf idx id pos st fi sf):(Ze5 idx id cls pos st fi sf).size<=10049:=by
 unfold Ze5;have:=Hs (cls:=cls) h;simp only[ByteArray.size_append];have e:(⟨#[58,32]⟩:ByteArray).size=2:=rfl;omega
theorem Hq{idx:Nat}{id:Int}{cls pos st fi:Nat}{sf:ByteArray}(h:Yf idx id pos st fi sf):(Ze4 idx id cls pos st fi sf).size<=10070:=by
 unfold Ze4;have:=Hr (cls:=cls) h;have:=Vh (st:Int) (by have:=h;unfold Yf at this;omega) (by have:=h;unfold Yf at this;omega);simp only[ByteArray.size_append];omega
theorem Hp{idx:Nat}{id:Int}{cls pos st fi:Nat}{sf:ByteArray}(h:Yf idx id pos st fi sf):(Ze3 idx id cls pos st fi sf).size<=10072:=by
 unfold Ze3;have:=Hq (cls:=cls) h;simp only[ByteArray.size_append];have e:(⟨#[44,32]⟩:ByteArray).size=2:=rfl;omega
theorem Ho{idx:Nat}{id:Int}{cls pos st fi:Nat}{sf:ByteArray}(h:Yf idx id pos st fi sf):(Ze2 idx id cls pos st fi sf).size<=10093:=by
 unfold Ze2;have:=Hp (cls:=cls) h;have:=Vh (fi:Int) (by have:=h;unfold Yf at this;omega) (by have:=h;unfold Yf at this;omega);simp only[ByteArray.size_append];omega
theorem Hn{idx:Nat}{id:Int}{cls pos st fi:Nat}{sf:ByteArray}(h:Yf idx id pos st fi sf):(Ze1 idx id cls pos st fi sf).size<=10095:=by
 unfold Ze1;have:=Ho (cls:=cls) h;simp only[ByteArray.size_append];have e:(⟨#[41,32]⟩:ByteArray).size=2:=rfl;omega
theorem Hm{idx:Nat}{id:Int}{cls pos st fi:Nat}{sf:ByteArray}(h:Yf idx id pos st fi sf):(Ze0 idx id cls pos st fi sf).size<=10102:=by
 unfold Ze0;have:=Hn (cls:=cls) h;have:=Mc cls;simp only[ByteArray.size_append];omega
theorem Hl{idx:Nat}{id:Int}{cls pos st fi:Nat}{sf:ByteArray}(h:Yf idx id pos st fi sf):(Zez idx id cls pos st fi sf).size<=10104:=by
 unfold Zez;have:=Hm (cls:=cls) h;simp only[ByteArray.size_append];have e:(⟨#[32,91]⟩:ByteArray).size=2:=rfl;omega
theorem Zex{idx:Nat}{id:Int}{cls pos st fi:Nat}{sf:ByteArray}(h:Yf idx id pos st fi sf):(Zey idx id cls pos st fi sf).size<=10125:=by
 unfold Zey;have:=Hl (cls:=cls) h;have:=Vh id (by have:=h;unfold Yf at this;omega) (by have:=h;unfold Yf at this;omega);simp only[ByteArray.size_append];omega
def Zb1(t:Yw):ByteArray:=Zka t.index t.id t.cls t.pos t.start t.fin t.surf
theorem Zkh{d:Zg}{us:List GRec}(t:Yw)(kd:Nat)(pu:Option Addr)(w:World)(ht:V8 d us t)(hT:Tbs w) :
  Calls Tryz.prog 78 #[.agg (Yh kd pu t).toArray] w λe w'=>e=.returned (.string (Zb1 t))/\Zf w w':=by
 have mixed:Tryz.prog.follows .mixedOrders=true:=Kr
 obtain⟨n0,n1,n2,n3,n4,n5⟩:=ht.num;have hcl:=ht.cls;clear ht;have X0:Zf w (w.alloc (Zr kd pu t)):=(Fl _).alloc _;obtain⟨idx,id,cls,pos,st,fi,sf⟩:=t;show Calls _ _ _ _ λe w'=>e=.returned (.string (Zka idx id cls pos st fi sf))/\_
 simp only at n0 n1 n2 n3 n4 n5 hcl;obtain⟨rb,hrb⟩:∃ rb,rb=w.heap.size:=⟨_,rfl⟩;have K1:=alloc_at' w (Zr kd pu ⟨idx,id,cls,pos,st,fi,sf⟩) hrb;go_enter Tryz.func78,Tryz.ntmps78
 have HNU:Hid (Yf idx id pos st fi sf):=Ai1 n0 (Ai1 n1 (Ai1 n2 (Ai1 n3 (Ai1 n4 n5))));clear n0 n1 n2 n3 n4 n5;go_upto_region 1 with fail
 have HX:=Hd X0;have HT:=Hd (hT.ext X0)
 have HSS:Hid (∀ W,Zf (w.alloc (Zr kd pu ⟨idx,id,cls,pos,st,fi,sf⟩)) W->W.cell? ⟨rb,0,none⟩=some (.int .i64 (idx:Int))/\W.cell? ⟨rb,1,none⟩=some (.int .i64 id)/\W.cell? ⟨rb,2,none⟩=some (.int .i64 (cls:Int))/\W.cell? ⟨rb,3,none⟩=some (.int .i64 (pos:Int))/\W.cell? ⟨rb,4,none⟩=some (.int .i64 (st:Int))/\W.cell? ⟨rb,5,none⟩=some (.int .i64 (fi:Int))/\W.cell? ⟨rb,6,none⟩=some (.string sf)):=λW f=>by
  obtain⟨b0,b1,b2,b3,b4,b5,b6,_⟩:=Lo (f.heap K1 (λe=>e));exact⟨b0,b1,b2,b3,b4,b5,b6⟩
 rw[<- hrb];clear hrb X0 hT K1;generalize w.alloc _=w1 at *;refine Ya 34 35 #[false,false,false,false,false,false,false,false,false,false,false,false,false,false,false,false,false,false,false,false,false,false,false,false,false,false,false,false,false,false,false,false,false,false,false] (λW=>Zf w1 W/\W.cell? ⟨rb,0,none⟩=some (.int .i64 (idx:Int))/\W.cell? ⟨rb,1,none⟩=some (.int .i64 id)/\W.cell? ⟨rb,2,none⟩=some (.int .i64 (cls:Int))/\W.cell? ⟨rb,3,none⟩=some (.int .i64 (pos:Int))/\W.cell? ⟨rb,4,none⟩=some (.int .i64 (st:Int))/\W.cell? ⟨rb,5,none⟩=some (.int .i64 (fi:Int))/\W.cell? ⟨rb,6,none⟩=some (.string sf)) mixed rfl rfl (⟨(Fl w1).drew,HSS.out w1.drew ((Fl w1).drew)⟩) (λhS=>?_);refine WL.go [(0,3),(1,4),(4,7),(5,8),(9,12),(10,13),(14,17),(15,18),(19,22),(20,23),(24,27),(25,28),(29,32),(30,33)] ?_;iterate 14 (refine WL.tk (v:=?_) rfl rfl Kr (λ_ _ _ h=>h) (Or.inl ⟨Rf,?_⟩) (by assumption) ?_;rotate_left;(focus (intro w hSw;(try obtain⟨sf',b0,b1,b2,b3,b4,b5,b6⟩:=hSw);go_simp;(try with_reducible rfl)));simp only[Act.put,Sa,Sb1,Sc])
 refine WZ.flowT 1 34 [(2,5,[]),(3,6,[(2,5)]),(6,9,[]),(7,10,[(3,6),(6,9)]),(8,11,[(7,10)]),(11,14,[]),(12,15,[(8,11),(11,14)]),(13,16,[(12,15)]),(16,19,[]),(17,20,[(13,16),(16,19)]),(18,21,[(17,20)]),(21,24,[]),(22,25,[(18,21),(21,24)]),(23,26,[(22,25)]),(26,29,[]),(27,30,[(23,26),(26,29)]),(28,31,[(27,30)]),(31,34,[]),(32,35,[(28,31),(31,34)]),(33,36,[(32,35)])]
  [(2,λv _=>v=.string (I2 (idx:Int))),(3,λv _=>v=.string (tx3 idx id cls pos st fi sf)),(6,λv _=>v=.string (strOfNums (Lib.quoteZ Lib.goPrintTabs sf))),(7,λv _=>v=.string (tx7 idx id cls pos st fi sf)),(8,λv _=>v=.string (tx8 idx id cls pos st fi sf)),(11,λv _=>v=.string (I2 (pos:Int))),(12,λv _=>v=.string (Ze6 idx id cls pos st fi sf)),(13,λv _=>v=.string (Ze5 idx id cls pos st fi sf)),(16,λv _=>v=.string (I2 (st:Int))),(17,λv _=>v=.string (Ze4 idx id cls pos st fi sf)),(18,λv _=>v=.string (Ze3 idx id cls pos st fi sf)),(21,λv _=>v=.string (I2 (fi:Int))),(22,λv _=>v=.string (Ze2 idx id cls pos st fi sf)),(23,λv _=>v=.string (Ze1 idx id cls pos st fi sf)),(26,λv _=>v=.string (Ye cls)),(27,λv _=>v=.string (Ze0 idx id cls pos st fi sf)),(28,λv _=>v=.string (Zez idx id cls pos st fi sf)),(31,λv _=>v=.string (I2 id)),(32,λv _=>v=.string (Zey idx id cls pos st fi sf)),(33,λv _=>v=.string (Zka idx id cls pos st fi sf))]
  Kr rfl (λW W' h f=>⟨Z5 h.1 f,HSS.out W' (Z5 h.1 f)⟩) ?_ (by assumption) ?_ (λvals W hx hSw hv=>?_)
 ·simp only[List.forall_mem_cons];exact⟨λv W W' f h=>h,λv W W' f h=>h,λv W W' f h=>h,λv W W' f h=>h,λv W W' f h=>h,λv W W' f h=>h,λv W W' f h=>h,λv W W' f h=>h,λv W W' f h=>h,λv W W' f h=>h,λv W W' f h=>h,λv W W' f h=>h,λv W W' f h=>h,λv W W' f h=>h,λv W W' f h=>h,λv W W' f h=>h,λv W W' f h=>h,λv W W' f h=>h,λv W W' f h=>h,λv W W' f h=>h,λ_ h=>nomatch h⟩
 ·simp only[List.forall_mem_cons];refine⟨⟨_,rfl,λvals W hSw hD Q' K hK=>?_⟩,⟨_,rfl,λvals W hSw hD Q' K hK=>?_⟩,⟨_,rfl,λvals W hSw hD Q' K hK=>?_⟩,⟨_,rfl,λvals W hSw hD Q' K hK=>?_⟩,⟨_,rfl,λvals W hSw hD Q' K hK=>?_⟩,⟨_,rfl,λvals W hSw hD Q' K hK=>?_⟩,⟨_,rfl,λvals W hSw hD Q' K hK=>?_⟩,⟨_,rfl,λvals W hSw hD Q' K hK=>?_⟩,⟨_,rfl,λvals W hSw hD Q' K hK=>?_⟩,⟨_,rfl,λvals W hSw hD Q' K hK=>?_⟩,⟨_,rfl,λvals W hSw hD Q' K hK=>?_⟩,⟨_,rfl,λvals W hSw hD Q' K hK=>?_⟩,⟨_,rfl,λvals W hSw hD Q' K hK=>?_⟩,⟨_,rfl,λvals W hSw hD Q' K hK=>?_⟩,⟨_,rfl,λvals W hSw hD Q' K hK=>?_⟩,⟨_,rfl,λvals W hSw hD Q' K hK=>?_⟩,⟨_,rfl,λvals W hSw hD Q' K hK=>?_⟩,⟨_,rfl,λvals W hSw hD Q' K hK=>?_⟩,⟨_,rfl,λvals W hSw hD Q' K hK=>?_⟩,⟨_,rfl,λvals W hSw hD Q' K hK=>?_⟩,λ_ h=>nomatch h⟩
  ·
   have HSW:=Hd hSw.1;clear hD hSw;simp only[Yc];go_simp;go_wp2_with (go_at_call 125;refine (Ph (idx:Int) W (by have:=HNU.out;unfold Yf at this;omega) (by have:=HNU.out;unfold Yf at this;omega) (HT.out.ext HSW.out)).mono ?_;rintro e w5 ⟨rfl,hx⟩)
   exact hK.out _ _ w5 rfl hx rfl
  ·
   have h2:vals 2=.string (I2 (idx:Int)):=hD (2,5) (by simp);have HSW:=Hd hSw.1;clear hD hSw;simp only[Yc,h2]at hK⊢;clear h2;have q2:=Vh (idx:Int) (by have:=HNU.out;unfold Yf at this;omega) (by have:=HNU.out;unfold Yf at this;omega);have hz:¬ 9223372036854775807<(I2 (idx:Int)).size+1:=Om;clear q2;go_simp;exact hK.out _ _ W rfl (Fl _) rfl
  ·
   have HSW:=Hd hSw.1;clear hD hSw;simp only[Yc];go_simp;go_wp2_with (go_at_call 126;refine (Zfj sf W (by have:=HNU.out;unfold Yf at this;omega) (HT.out.ext HSW.out)).mono ?_;rintro e w5 ⟨rfl,hx⟩)
   exact hK.out _ _ w5 rfl hx rfl
  ·
   have h3:vals 3=.string (tx3 idx id cls pos st fi sf):=hD (3,6) (by simp);have h6:vals 6=.string (strOfNums (Lib.quoteZ Lib.goPrintTabs sf)):=hD (6,9) (by simp);have HSW:=Hd hSw.1;clear hD hSw;simp only[Yc,h3,h6]at hK⊢;clear h3 h6;have q3:=Bb (cls:=cls) HNU.out;have q6:=Lz sf HNU.out.2.2.2.2.2;have hz:¬ 9223372036854775807<(tx3 idx id cls pos st fi sf).size+(strOfNums (Lib.quoteZ Lib.goPrintTabs sf)).size:=Om;clear q3 q6;go_simp;exact hK.out _ _ W rfl (Fl _) rfl
  ·
   have h7:vals 7=.string (tx7 idx id cls pos st fi sf):=hD (7,10) (by simp);have HSW:=Hd hSw.1;clear hD hSw;simp only[Yc,h7]at hK⊢;clear h7;have q7:=Ba (cls:=cls) HNU.out;have hz:¬ 9223372036854775807<(tx7 idx id cls pos st fi sf).size+2:=Om;clear q7;go_simp;exact hK.out _ _ W rfl (Fl _) rfl
  ·
   have HSW:=Hd hSw.1;clear hD hSw;simp only[Yc];go_simp;go_wp2_with (go_at_call 125;refine (Ph (pos:Int) W (by have:=HNU.out;unfold Yf at this;omega) (by have:=HNU.out;unfold Yf at this;omega) (HT.out.ext HSW.out)).mono ?_;rintro e w5 ⟨rfl,hx⟩)
   exact hK.out _ _ w5 rfl hx rfl
  ·
   have h8:vals 8=.string (tx8 idx id cls pos st fi sf):=hD (8,11) (by simp);have h11:vals 11=.string (I2 (pos:Int)):=hD (11,14) (by simp);have HSW:=Hd hSw.1;clear hD hSw;simp only[Yc,h8,h11]at hK⊢;clear h8 h11;have q8:=C9 (cls:=cls) HNU.out;have q11:=Vh (pos:Int) (by have:=HNU.out;unfold Yf at this;omega) (by have:=HNU.out;unfold Yf at this;omega);have hz:¬ 9223372036854775807<(tx8 idx id cls pos st fi sf).size+(I2 (pos:Int)).size:=Om;clear q8 q11;go_simp;exact hK.out _ _ W rfl (Fl _) rfl
  ·
   have h12:vals 12=.string (Ze6 idx id cls pos st fi sf):=hD (12,15) (by simp);have HSW:=Hd hSw.1;clear hD hSw;simp only[Yc,h12]at hK⊢;clear h12;have q12:=Hs (cls:=cls) HNU.out;have hz:¬ 9223372036854775807<(Ze6 idx id cls pos st fi sf).size+2:=Om;clear q12;go_simp;exact hK.out _ _ W rfl (Fl _) rfl
  ·
   have HSW:=Hd hSw.1;clear hD hSw;simp only[Yc];go_simp;go_wp2_with (go_at_call 125;refine (Ph (st:Int) W (by have:=HNU.out;unfold Yf at this;omega) (by have:=HNU.out;unfold Yf at this;omega) (HT.out.ext HSW.out)).mono ?_;rintro e w5 ⟨rfl,hx⟩)
   exact hK.out _ _ w5 rfl hx rfl
  ·
   have h13:vals 13=.string (Ze5 idx id cls pos st fi sf):=hD (13,16) (by simp);have h16:vals 16=.string (I2 (st:Int)):=hD (16,19) (by simp);have HSW:=Hd hSw.1;clear hD hSw;simp only[Yc,h13,h16]at hK⊢;clear h13 h16;have q13:=Hr (cls:=cls) HNU.out;have q16:=Vh (st:Int) (by have:=HNU.out;unfold Yf at this;omega) (by have:=HNU.out;unfold Yf at this;omega);have hz:¬ 9223372036854775807<(Ze5 idx id cls pos st fi sf).size+(I2 (st:Int)).size:=Om;clear q13 q16;go_simp;exact hK.out _ _ W rfl (Fl _) rfl
  ·
   have h17:vals 17=.string (Ze4 idx id cls pos st fi sf):=hD (17,20) (by simp);have HSW:=Hd hSw.1;clear hD hSw;simp only[Yc,h17]at hK⊢;clear h17;have q17:=Hq (cls:=cls) HNU.out;have hz:¬ 9223372036854775807<(Ze4 idx id cls pos st fi sf).size+2:=Om;clear q17;go_simp;exact hK.out _ _ W rfl (Fl _) rfl
  ·
   have HSW:=Hd hSw.1;clear hD hSw;simp only[Yc];go_simp;go_wp2_with (go_at_call 125;refine (Ph (fi:Int) W (by have:=HNU.out;unfold Yf at this;omega) (by have:=HNU.out;unfold Yf at this;omega) (HT.out.ext HSW.out)).mono ?_;rintro e w5 ⟨rfl,hx⟩)
   exact hK.out _ _ w5 rfl hx rfl
  ·
   have h18:vals 18=.string (Ze3 idx id cls pos st fi sf):=hD (18,21) (by simp);have h21:vals 21=.string (I2 (fi:Int)):=hD (21,24) (by simp);have HSW:=Hd hSw.1;clear hD hSw;simp only[Yc,h18,h21]at hK⊢;clear h18 h21;have q18:=Hp (cls:=cls) HNU.out;have q21:=Vh (fi:Int) (by have:=HNU.out;unfold Yf at this;omega) (by have:=HNU.out;unfold Yf at this;omega);have hz:¬ 9223372036854775807<(Ze3 idx id cls pos st fi sf).size+(I2 (fi:Int)).size:=Om;clear q18 q21;go_simp;exact hK.out _ _ W rfl (Fl _) rfl
  ·
   have h22:vals 22=.string (Ze2 idx id cls pos st fi sf):=hD (22,25) (by simp);have HSW:=Hd hSw.1;clear hD hSw;simp only[Yc,h22]at hK⊢;clear h22;have q22:=Ho (cls:=cls) HNU.out;have hz:¬ 9223372036854775807<(Ze2 idx id cls pos st fi sf).size+2:=Om;clear q22;go_simp;exact hK.out _ _ W rfl (Fl _) rfl
  ·
   have HSW:=Hd hSw.1;clear hD hSw;simp only[Yc];go_simp;go_wp2_with (go_at_call 79;refine (Du cls hcl W).mono ?_;rintro e w5 ⟨rfl,hx⟩)
   exact hK.out _ _ w5 rfl hx rfl
  ·
   have h23:vals 23=.string (Ze1 idx id cls pos st fi sf):=hD (23,26) (by simp);have h26:vals 26=.string (Ye cls):=hD (26,29) (by simp);have HSW:=Hd hSw.1;clear hD hSw;simp only[Yc,h23,h26]at hK⊢;clear h23 h26;have q23:=Hn (cls:=cls) HNU.out;have q26:=Mc cls;have hz:¬ 9223372036854775807<(Ze1 idx id cls pos st fi sf).size+(Ye cls).size:=Om;clear q23 q26;go_simp;exact hK.out _ _ W rfl (Fl _) rfl
  ·
   have h27:vals 27=.string (Ze0 idx id cls pos st fi sf):=hD (27,30) (by simp);have HSW:=Hd hSw.1;clear hD hSw;simp only[Yc,h27]at hK⊢;clear h27;have q27:=Hm (cls:=cls) HNU.out;have hz:¬ 9223372036854775807<(Ze0 idx id cls pos st fi sf).size+2:=Om;clear q27;go_simp;exact hK.out _ _ W rfl (Fl _) rfl
  ·
   have HSW:=Hd hSw.1;clear hD hSw;simp only[Yc];go_simp;go_wp2_with (go_at_call 125;refine (Ph id W (by have:=HNU.out;unfold Yf at this;omega) (by have:=HNU.out;unfold Yf at this;omega) (HT.out.ext HSW.out)).mono ?_;rintro e w5 ⟨rfl,hx⟩)
   exact hK.out _ _ w5 rfl hx rfl
  ·
   have h28:vals 28=.string (Zez idx id cls pos st fi sf):=hD (28,31) (by simp);have h31:vals 31=.string (I2 id):=hD (31,34) (by simp);have HSW:=Hd hSw.1;clear hD hSw;simp only[Yc,h28,h31]at hK⊢;clear h28 h31;have q28:=Hl (cls:=cls) HNU.out;have q31:=Vh id (by have:=HNU.out;unfold Yf at this;omega) (by have:=HNU.out;unfold Yf at this;omega);have hz:¬ 9223372036854775807<(Zez idx id cls pos st fi sf).size+(I2 id).size:=Om;clear q28 q31;go_simp;exact hK.out _ _ W rfl (Fl _) rfl
  ·
   have h32:vals 32=.string (Zey idx id cls pos st fi sf):=hD (32,35) (by simp);have HSW:=Hd hSw.1;clear hD hSw;simp only[Yc,h32]at hK⊢;clear h32;have q32:=Zex (cls:=cls) HNU.out;have hz:¬ 9223372036854775807<(Zey idx id cls pos st fi sf).size+1:=Om;clear q32;go_simp;exact hK.out _ _ W rfl (Fl _) rfl
 ·have h33:vals 33=.string (Zka idx id cls pos st fi sf):=hv (33,36,[(32,35)]) (by simp);simp only[Yc,List.map_cons,List.map_nil,Act.put,Sa,Sb1,Sc,h33];clear hv h33;generalize vals 2=v2 at *;generalize vals 3=v3 at *;generalize vals 6=v6 at *;generalize vals 7=v7 at *;generalize vals 8=v8 at *;generalize vals 11=v11 at *;generalize vals 12=v12 at *;generalize vals 13=v13 at *;generalize vals 16=v16 at *;generalize vals 17=v17 at *;generalize vals 18=v18 at *;generalize vals 21=v21 at *;generalize vals 22=v22 at *;generalize vals 23=v23 at *;generalize vals 26=v26 at *;generalize vals 27=v27 at *;generalize vals 28=v28 at *;generalize vals 31=v31 at *;generalize vals 32=v32 at *;have HW:=Hd (Z5 HX.out hSw.1);clear hx;refine WZ.last rfl Kr Kr (λK hK=>?_);go_simp;refine hK.out _ _ ?_;clear hK K;go_wp2_with fail
  first|go_ret|go_ret2
  exact⟨rfl,HW.out⟩
end
section
open Go.RowKit DT SS TR LT Go
abbrev TTD:TypeId:=148
def Zdh(t:Yw)(b r p:ByteArray)(v:Value):Prop:=∃ A n c B m e,v=.agg #[.int .i64 t.id,.int .i64 (t.start:Int),.int .i64 (t.fin:Int),.string t.surf,.string (Ye t.cls),.slice A n c,.string b,.string r,.string p,.slice B m e]
theorem Hc{W:World}{g:Nat}{T:TypeId}{cs:Array Value}(j:Nat)(v:Value)(cs':Array Value)(e:cs.setIfInBounds j v=cs')(h:W.heap[g]?=some (.cells cs T (0,0)) ):(W.setCell ⟨g,j,none⟩ v).heap[g]?=some (.cells cs' T (0,0))/\Fr (λk=>k=g) W (W.setCell ⟨g,j,none⟩ v):=by
 subst e;exact⟨Yk h j v,(Fl W).setCell ⟨g,j,none⟩ v (λ_=>rfl)⟩
theorem Zl5{W:World}{g:Nat}{T:TypeId}{a0 a1 a2 a3 a4 a5 a6 a7 a8 a9:Value}(v0 v1 v2 v3 v4 v5 v6 v7 v8 v9:Value)(h:W.heap[g]?=some (.cells #[a0,a1,a2,a3,a4,a5,a6,a7,a8,a9] T (0,0))):((((((((((W.setCell ⟨g,0,none⟩ v0).setCell ⟨g,1,none⟩ v1).setCell ⟨g,2,none⟩ v2).setCell ⟨g,3,none⟩ v3).setCell ⟨g,4,none⟩ v4).setCell ⟨g,5,none⟩ v5).setCell ⟨g,6,none⟩ v6).setCell ⟨g,7,none⟩ v7).setCell ⟨g,8,none⟩ v8).setCell ⟨g,9,none⟩ v9).heap[g]?=some (.cells #[v0,v1,v2,v3,v4,v5,v6,v7,v8,v9] T (0,0))/\Fr (λj=>j=g) W ((((((((((W.setCell ⟨g,0,none⟩ v0).setCell ⟨g,1,none⟩ v1).setCell ⟨g,2,none⟩ v2).setCell ⟨g,3,none⟩ v3).setCell ⟨g,4,none⟩ v4).setCell ⟨g,5,none⟩ v5).setCell ⟨g,6,none⟩ v6).setCell ⟨g,7,none⟩ v7).setCell ⟨g,8,none⟩ v8).setCell ⟨g,9,none⟩ v9):=by
 have s0:=Hc 0 v0 #[v0,a1,a2,a3,a4,a5,a6,a7,a8,a9] rfl h;generalize World.setCell _ ⟨g,0,none⟩ v0=W0 at *;have s1:=Hc 1 v1 #[v0,v1,a2,a3,a4,a5,a6,a7,a8,a9] rfl s0.1;generalize World.setCell _ ⟨g,1,none⟩ v1=W1 at *;have s2:=Hc 2 v2 #[v0,v1,v2,a3,a4,a5,a6,a7,a8,a9] rfl s1.1;generalize World.setCell _ ⟨g,2,none⟩ v2=W2 at *;have s3:=Hc 3 v3 #[v0,v1,v2,v3,a4,a5,a6,a7,a8,a9] rfl s2.1;generalize World.setCell _ ⟨g,3,none⟩ v3=W3 at *;have s4:=Hc 4 v4 #[v0,v1,v2,v3,v4,a5,a6,a7,a8,a9] rfl s3.1;generalize World.setCell _ ⟨g,4,none⟩ v4=W4 at *;have s5:=Hc 5 v5 #[v0,v1,v2,v3,v4,v5,a6,a7,a8,a9] rfl s4.1;generalize World.setCell _ ⟨g,5,none⟩ v5=W5 at *;have s6:=Hc 6 v6 #[v0,v1,v2,v3,v4,v5,v6,a7,a8,a9] rfl s5.1;generalize World.setCell _ ⟨g,6,none⟩ v6=W6 at *;have s7:=Hc 7 v7 #[v0,v1,v2,v3,v4,v5,v6,v7,a8,a9] rfl s6.1;generalize World.setCell _ ⟨g,7,none⟩ v7=W7 at *;have s8:=Hc 8 v8 #[v0,v1,v2,v3,v4,v5,v6,v7,v8,a9] rfl s7.1;generalize World.setCell _ ⟨g,8,none⟩ v8=W8 at *;have s9:=Hc 9 v9 #[v0,v1,v2,v3,v4,v5,v6,v7,v8,v9] rfl s8.1;generalize World.setCell _ ⟨g,9,none⟩ v9=W9 at *;exact⟨s9.1,(((((((((s0.2).trans s1.2 (λ_ _ q=>q)).trans s2.2 (λ_ _ q=>q)).trans s3.2 (λ_ _ q=>q)).trans s4.2 (λ_ _ q=>q)).trans s5.2 (λ_ _ q=>q)).trans s6.2 (λ_ _ q=>q)).trans s7.2 (λ_ _ q=>q)).trans s8.2 (λ_ _ q=>q)).trans s9.2 (λ_ _ q=>q)⟩
def I3(w:World)(kd:Nat)(pu:Option Addr)(t:Yw)(rb rz g:Nat)(A:Option Addr)(n c:Nat)(B:Option Addr)(m e:Nat)(b r p:ByteArray)(W:World):Prop :=
 W.heap[rb]?=some (Zr kd pu t)/\W.heap[rz]?=some (.cells #[.int .i64 0,.int .i64 0,.int .i64 0,.string ⟨#[]⟩,.string ⟨#[]⟩,.slice none 0 0,.string ⟨#[]⟩,.string ⟨#[]⟩,.string ⟨#[]⟩,.slice none 0 0] TTD (0,0)) /\
 W.heap[g]?=some (.cells #[.int .i64 t.id,.int .i64 (t.start:Int),.int .i64 (t.fin:Int),.string t.surf,.string (Ye t.cls),.slice A n c,.string b,.string r,.string p,.slice B m e] TTD (0,0))/\Zf w W/\w.heap.size<=rb/\rb<g/\rz<g/\rb<rz
theorem I3.ext{w W W':World}{kd:Nat}{pu:Option Addr}{t:Yw}{rb rz g:Nat}{A:Option Addr}{n c:Nat}{B:Option Addr}{m e:Nat}{b r p:ByteArray}(h:I3 w kd pu t rb rz g A n c B m e b r p W)(f:Zf W W'):I3 w kd pu t rb rz g A n c B m e b r p W' :=
 ⟨f.heap h.1 id,f.heap h.2.1 id,f.heap h.2.2.1 id,Z5 h.2.2.2.1 f,h.2.2.2.2⟩
theorem I3.put{w W:World}{kd:Nat}{pu:Option Addr}{t:Yw}{rb rz g:Nat}{A:Option Addr}{n c:Nat}{B:Option Addr}{m e:Nat}{b r p:ByteArray}(h:I3 w kd pu t rb rz g A n c B m e b r p W){A':Option Addr}{n' c':Nat}{B':Option Addr}{m' e':Nat}{b' r' p':ByteArray}(j:Nat)(v:Value)
  (hv:(#[.int .i64 t.id,.int .i64 (t.start:Int),.int .i64 (t.fin:Int),.string t.surf,.string (Ye t.cls),.slice A n c,.string b,.string r,.string p,.slice B m e]:Array Value).setIfInBounds j v=#[.int .i64 t.id,.int .i64 (t.start:Int),.int .i64 (t.fin:Int),.string t.surf,.string (Ye t.cls),.slice A' n' c',.string b',.string r',.string p',.slice B' m' e']) :
  I3 w kd pu t rb rz g A' n' c' B' m' e' b' r' p' (W.setCell ⟨g,j,none⟩ v):=by
 obtain⟨h1,h2,h3,h4,h5,h6,h7,h8⟩:=h;have F:Fr (λk=>k=g) W (W.setCell ⟨g,j,none⟩ v):=(Fl W).setCell ⟨g,j,none⟩ v (λ_=>rfl);refine⟨F.heap h1 Om,F.heap h2 Om,?_,h4.trans F (λk hk q=>Om),h5,h6,h7,h8⟩;rw[<- hv];exact Yk h3 j v
theorem Zjd{d:Zg}{us:List GRec}(t:Yw)(kd H U:Nat)(pu:Option Addr)(w:World)(ht:V8 d us t)(hD:Wv d us kd pu H U w) :
    Calls Tryz.prog 81 #[.agg (Yh kd pu t).toArray] w λe w'=>(∃ v,e=.returned v/\Zdh t ((Zo d us t V6).getD ⟨#[]⟩) ((Zo d us t V4).getD ⟨#[]⟩) ((Zo d us t V5).getD ⟨#[]⟩) v)/\Zf w w':=by
  have mixed:Tryz.prog.follows .mixedOrders=true:=Kr
  have heq:∀ (W:World) (B:Option Addr) (l k:Nat),(binOp .eql 34 (.slice B l k) (.slice none 0 0)).run Tryz.prog W=.ok (.bool B.isNone) W:=λW B l k=>Go.run_eql_slice_nil W _ _ B l k Tryz.underlying34
  have HEQ:=Hd heq;clear heq;have hcl:=ht.cls
  have CP:Hid (∀ W,Zf w W->Calls Tryz.prog 71 #[.agg (Yh kd pu t).toArray] W λe w'=>(∃ A n c,e=.returned (.slice A n c)/\(A=none->n=0/\c=0))/\Zf W w'):=λW f=>(Zdu ht (hD.ext f)).mono λe w' ⟨v,h1,h2,h3⟩=>by
    obtain⟨A,c,rfl⟩:=Yq h2;exact⟨⟨_,_,_,h1,λe=>by subst e;exact⟨by have:=Mv h2;rw[this];rfl,Mx h2⟩⟩,h3⟩
  have CF:Hid (∀ W,Zf w W->Calls Tryz.prog 70 #[.agg (Yh kd pu t).toArray] W λe w'=>(∃ A n c,e=.returned (.slice A n c)/\(A=none->n=0/\c=0))/\Zf W w'):=λW f=>(Za1 ht (hD.ext f)).mono λe w' ⟨v,h1,h2,h3⟩=>by
    obtain⟨A,c,rfl⟩:=Yq h2;exact⟨⟨_,_,_,h1,λe=>by subst e;exact⟨by have:=Mv h2;rw[this];rfl,Mx h2⟩⟩,h3⟩
  have C1:Hid (∀ W,Zf w W->Calls Tryz.prog 73 #[.agg (Yh kd pu t).toArray] W λe w'=>e=.returned (Yp (Zo d us t V6))/\Zf W w'):=λW f=>L9 ht (hD.ext f)
  have C2:Hid (∀ W,Zf w W->Calls Tryz.prog 74 #[.agg (Yh kd pu t).toArray] W λe w'=>e=.returned (Yp (Zo d us t V4))/\Zf W w'):=λW f=>L7 ht (hD.ext f)
  have C3:Hid (∀ W,Zf w W->Calls Tryz.prog 75 #[.agg (Yh kd pu t).toArray] W λe w'=>e=.returned (Yp (Zo d us t V5))/\Zf W w'):=λW f=>L8 ht (hD.ext f)
  clear ht hD;generalize Zo d us t V6=p1 at *;generalize Zo d us t V4=p2 at *;generalize Zo d us t V5=p3 at *;have X0:Zf w (w.alloc (Zr kd pu t)):=(Fl _).alloc _;obtain⟨idx,id,cls,pos,st,fi,sf⟩:=t;unfold Zdh;simp only at hcl⊢;obtain⟨rb,hrb⟩:∃ rb,rb=w.heap.size:=⟨_,rfl⟩;have K1:=alloc_at' w (Zr kd pu ⟨idx,id,cls,pos,st,fi,sf⟩) hrb;go_enter Tryz.func81,Tryz.ntmps81
  go_upto_region 1 with fail
  rw[<- hrb];obtain⟨rz,hrz⟩:∃ rz,rz=rb+1:=⟨_,rfl⟩;rw[<- hrz];have K2:=alloc_at' (w.alloc (Zr kd pu ⟨idx,id,cls,pos,st,fi,sf⟩)) (.cells #[.int .i64 0,.int .i64 0,.int .i64 0,.string ⟨#[]⟩,.string ⟨#[]⟩,.slice none 0 0,.string ⟨#[]⟩,.string ⟨#[]⟩,.string ⟨#[]⟩,.slice none 0 0] TTD) (show rz=_ by rw[hrz,Za,hrb]);have K1:=((Fl (w.alloc (Zr kd pu ⟨idx,id,cls,pos,st,fi,sf⟩))).alloc (.cells #[.int .i64 0,.int .i64 0,.int .i64 0,.string ⟨#[]⟩,.string ⟨#[]⟩,.slice none 0 0,.string ⟨#[]⟩,.string ⟨#[]⟩,.string ⟨#[]⟩,.slice none 0 0] TTD):Zf _ _).heap K1 (λe=>e);have X1:Zf w ((w.alloc (Zr kd pu ⟨idx,id,cls,pos,st,fi,sf⟩)).alloc (.cells #[.int .i64 0,.int .i64 0,.int .i64 0,.string ⟨#[]⟩,.string ⟨#[]⟩,.slice none 0 0,.string ⟨#[]⟩,.string ⟨#[]⟩,.string ⟨#[]⟩,.slice none 0 0] TTD)):=X0.alloc _;have HRW:=Hd ((Om:w.heap.size<=rb/\rz=rb+1));have HX:=Hd X1;clear hrb hrz X0 X1;generalize World.alloc (World.alloc _ _) _=w1 at *;have HK:=Hd (Ai1 K1 K2);have HSS:Hid (∀ W,Zf w1 W->W.cell? ⟨rb,0,none⟩=some (.int .i64 (idx:Int))/\W.cell? ⟨rb,1,none⟩=some (.int .i64 id)/\W.cell? ⟨rb,2,none⟩=some (.int .i64 (cls:Int))/\W.cell? ⟨rb,3,none⟩=some (.int .i64 (pos:Int))/\W.cell? ⟨rb,4,none⟩=some (.int .i64 (st:Int))/\W.cell? ⟨rb,5,none⟩=some (.int .i64 (fi:Int))/\W.cell? ⟨rb,6,none⟩=some (.string sf)/\W.cell? ⟨rb,7,none⟩=some (.pointer (some ⟨kd,0,none⟩))/\W.cell? ⟨rb,8,none⟩=some (.pointer pu)/\rb<W.heap.size):=λW f=>Lo (f.heap K1 (λe=>e))
  clear K1 K2;refine Ya 17 18 #[false,false,false,false,false,false,false,false,false,false,false,false,false,false,false,false,false,false] (λW=>Zf w1 W/\W.cell? ⟨rb,0,none⟩=some (.int .i64 (idx:Int))/\W.cell? ⟨rb,1,none⟩=some (.int .i64 id)/\W.cell? ⟨rb,2,none⟩=some (.int .i64 (cls:Int))/\W.cell? ⟨rb,3,none⟩=some (.int .i64 (pos:Int))/\W.cell? ⟨rb,4,none⟩=some (.int .i64 (st:Int))/\W.cell? ⟨rb,5,none⟩=some (.int .i64 (fi:Int))/\W.cell? ⟨rb,6,none⟩=some (.string sf)/\W.cell? ⟨rb,7,none⟩=some (.pointer (some ⟨kd,0,none⟩))/\W.cell? ⟨rb,8,none⟩=some (.pointer pu)/\rb<W.heap.size) mixed rfl rfl (⟨(Fl w1).drew,HSS.out w1.drew ((Fl w1).drew)⟩) (λhS=>?_);refine WL.go [(0,4),(1,5),(2,6),(3,7),(4,8),(5,9),(6,10),(7,11),(8,12),(9,13),(11,15),(13,17)] ?_;iterate 12 (refine WL.tk (v:=?_) rfl rfl Kr (λ_ _ _ h=>h) (Or.inl ⟨Rf,?_⟩) (by assumption) ?_;rotate_left;(focus (intro w hSw;(try obtain⟨sf',b0,b1,b2,b3,b4,b5,b6,b7,b8,lb⟩:=hSw);go_simp;(try with_reducible rfl)));simp only[Act.put,Sa,Sb1,Sc])
  refine WZ.flowT 1 17 [(10,14,[]),(12,16,[]),(14,18,[]),(15,19,[(10,14),(12,16),(14,18)]),(16,3,[])]
    [(10,λv _=>v=.string (Ye cls)),(12,λv _=>∃ A n c,v=.slice A n c/\(A=none->n=0/\c=0)),(14,λv _=>∃ A n c,v=.slice A n c/\(A=none->n=0/\c=0)),
     (15,λv _=>∃ A n c B m e,v=.agg #[.int .i64 id,.int .i64 (st:Int),.int .i64 (fi:Int),.string sf,.string (Ye cls),.slice A n c,.string ⟨#[]⟩,.string ⟨#[]⟩,.string ⟨#[]⟩,.slice B m e]/\(A=none->n=0/\c=0)/\(B=none->m=0/\e=0)),
     (16,λv W=>∃ g,v=.pointer (some ⟨g,0,none⟩)/\w1.heap.size<=g/\W.heap[g]?=some (.cells #[.int .i64 0,.int .i64 0,.int .i64 0,.string ⟨#[]⟩,.string ⟨#[]⟩,.slice none 0 0,.string ⟨#[]⟩,.string ⟨#[]⟩,.string ⟨#[]⟩,.slice none 0 0] TTD (0,0)))]
    Kr rfl (λW W' h f=>⟨Z5 h.1 f,HSS.out W' (Z5 h.1 f)⟩) ?_ (by assumption) ?_ (λvals W hx hSw hv=>?_)
  · simp only[List.forall_mem_cons]
    exact⟨λv W W' f h=>h,λv W W' f h=>h,λv W W' f h=>h,λv W W' f h=>h,λv W W' f ⟨g,h1,h2,h3⟩=>⟨g,h1,h2,f.heap h3 (λe=>e)⟩,λ_ h=>nomatch h⟩
  · simp only[List.forall_mem_cons]
    refine⟨⟨_,rfl,λvals W hSw hD Q' K hK=>?_⟩,⟨_,rfl,λvals W hSw hD Q' K hK=>?_⟩,⟨_,rfl,λvals W hSw hD Q' K hK=>?_⟩,⟨_,rfl,λvals W hSw hD Q' K hK=>?_⟩,⟨_,rfl,λvals W hSw hD Q' K hK=>?_⟩,λ_ h=>nomatch h⟩
    · have HSW:=Hd hSw.1
      clear hD hSw;simp only[Yc];go_simp;go_wp2_with (go_at_call 79;refine (Du cls hcl W).mono ?_;rintro e w5 ⟨rfl,hx⟩)
      exact hK.out _ _ w5 rfl hx rfl
    · have HSW:=Hd hSw.1
      clear hD hSw;simp only[Yc];go_simp;go_wp2_with (go_at_call 71;refine (CP.out W (Z5 HX.out HSW.out)).mono ?_;rintro e w5 ⟨⟨A,n,c,rfl,hnc⟩,hx⟩)
      exact hK.out _ _ w5 rfl hx ⟨_,_,_,rfl,hnc⟩
    · have HSW:=Hd hSw.1
      clear hD hSw;simp only[Yc];go_simp;go_wp2_with (go_at_call 70;refine (CF.out W (Z5 HX.out HSW.out)).mono ?_;rintro e w5 ⟨⟨A,n,c,rfl,hnc⟩,hx⟩)
      exact hK.out _ _ w5 rfl hx ⟨_,_,_,rfl,hnc⟩
    · have h10:vals 10=.string (Ye cls):=hD (10,14) (by simp)
      obtain⟨A,n,c,h12,q12⟩:∃ A n c,vals 12=.slice A n c/\(A=none->n=0/\c=0):=hD (12,16) (by simp);obtain⟨B,m,e,h14,q14⟩:∃ A n c,vals 14=.slice A n c/\(A=none->n=0/\c=0):=hD (14,18) (by simp);clear hD hSw;simp only[Yc,h10,h12,h14]at hK⊢;clear h10 h12 h14;go_simp;exact hK.out _ _ W rfl (Fl _) ⟨_,_,_,_,_,_,rfl,q12,q14⟩
    · have HSW:=Hd hSw.1
      clear hD hSw;simp only[Yc];go_simp;exact hK.out _ _ _ rfl ((Fl _).alloc _) ⟨_,rfl,HSW.out.size,alloc_at _ _⟩
  · obtain⟨A,n,c,B,m,e,h15,hA0,hB0⟩:∃ A n c B m e,vals 15=.agg #[.int .i64 id,.int .i64 (st:Int),.int .i64 (fi:Int),.string sf,.string (Ye cls),.slice A n c,.string ⟨#[]⟩,.string ⟨#[]⟩,.string ⟨#[]⟩,.slice B m e]/\(A=none->n=0/\c=0)/\(B=none->m=0/\e=0):=hv (15,19,[(10,14),(12,16),(14,18)]) (by simp)
    obtain⟨g,h16,hg,hgc⟩:∃ g,vals 16=.pointer (some ⟨g,0,none⟩)/\w1.heap.size<=g/\W.heap[g]?=some (.cells #[.int .i64 0,.int .i64 0,.int .i64 0,.string ⟨#[]⟩,.string ⟨#[]⟩,.slice none 0 0,.string ⟨#[]⟩,.string ⟨#[]⟩,.string ⟨#[]⟩,.slice none 0 0] TTD (0,0)):=hv (16,3,[]) (by simp);simp only[Yc,List.map_cons,List.map_nil,Act.put,Sa,Sb1,Sc,h15,h16];clear hv h15 h16;generalize vals 10=v10 at *;generalize vals 12=v12 at *;generalize vals 14=v14 at *;have HW:=Hd hx;have HG:=Hd (Ai1 hg hgc);clear hx;have z0:=cell_of hgc 0 _ rfl;have z1:=cell_of hgc 1 _ rfl;have z2:=cell_of hgc 2 _ rfl;have z3:=cell_of hgc 3 _ rfl;have z4:=cell_of hgc 4 _ rfl;have z5:=cell_of hgc 5 _ rfl;have z6:=cell_of hgc 6 _ rfl;have z7:=cell_of hgc 7 _ rfl;have z8:=cell_of hgc 8 _ rfl;have z9:=cell_of hgc 9 _ rfl;have pf:=Zi hgc;have pf0:=pf 0;have pf1:=pf 1;have pf2:=pf 2;have pf3:=pf 3;have pf4:=pf 4;have pf5:=pf 5;have pf6:=pf 6;have pf7:=pf 7;have pf8:=pf 8;have pf9:=pf 9;have lg:=lt_of_cell z0;clear pf hg hgc;refine WZ.last rfl Kr Kr (λK hK=>?_);go_simp;refine hK.out _ _ ?_;clear hK K;have P10:=Zl5 (.int .i64 id) (.int .i64 (st:Int)) (.int .i64 (fi:Int)) (.string sf) (.string (Ye cls)) (.slice A n c) (.string ⟨#[]⟩) (.string ⟨#[]⟩) (.string ⟨#[]⟩) (.slice B m e) HG.out.2;have hrw:=HRW.out;have hk1:=HK.out;have hgl:=HG.out.1;have hrzl:=(Gs1.1 hk1.2).1;have hwe:Zf w1 W:=hSw.1;have HT:Hid (I3 w kd pu ⟨idx,id,cls,pos,st,fi,sf⟩ rb rz g A n c B m e ⟨#[]⟩ ⟨#[]⟩ ⟨#[]⟩ _):=⟨P10.2.heap (hwe.heap hk1.1 (λe=>e)) Om,P10.2.heap (hwe.heap hk1.2 (λe=>e)) Om,P10.1,(Z5 HX.out hwe).trans P10.2 (λk hk q=>by have:=HX.out.size;omega),hrw.1,Om,Om,Om⟩;clear P10 hrw hk1 hgl hrzl hwe z0 z1 z2 z3 z4 z5 z6 z7 z8 z9 pf0 pf1 pf2 pf3 pf4 pf5 pf6 pf7 pf8 pf9 lg HG HW HK HRW HSS hS hSw HX;generalize World.setCell _ ⟨g,9,none⟩ _=W2 at *;go_step;go_step;refine wp_seq_k λK hK=>?_
    go_cut [] from 20 to 24 (λwr=>∃ A n c,Hid (I3 w kd pu ⟨idx,id,cls,pos,st,fi,sf⟩ rb rz g A n c B m e ⟨#[]⟩ ⟨#[]⟩ ⟨#[]⟩ wr))
    case first =>
      have z5:=cell_of HT.out.2.2.1 5 _ rfl;have pf5:=Zi HT.out.2.2.1 5;have lg:=lt_of_cell z5;rcases A with _|A
      · obtain⟨rfl,rfl⟩:=hA0 rfl
        have hq:=HEQ.out W2 none 0 0;go_wp2_with fail
        go_meet
        case rel=>exact⟨_,_,_,I3.ext (I3.put HT.out 5 _ rfl) ((Fl _).alloc _)⟩
      · clear hA0
        have hq:=HEQ.out W2 (some A) n c;go_wp2_with fail
        go_meet
        case rel=>exact⟨_,_,_,HT⟩
    case rest =>
    clear HT hA0;obtain⟨A',n',c',HT⟩:=hcut;generalize wc=W3 at *;go_step;refine wp_seq_k λK2 hK2=>?_
    go_cut [] from 25 to 29 (λwr=>∃ B m e,Hid (I3 w kd pu ⟨idx,id,cls,pos,st,fi,sf⟩ rb rz g A' n' c' B m e ⟨#[]⟩ ⟨#[]⟩ ⟨#[]⟩ wr))
    case first =>
      have z5:=cell_of HT.out.2.2.1 9 _ rfl;have pf5:=Zi HT.out.2.2.1 9;have lg:=lt_of_cell z5;rcases B with _|B
      · obtain⟨rfl,rfl⟩:=hB0 rfl
        have hq:=HEQ.out W3 none 0 0;go_wp2_with fail
        go_meet
        case rel=>exact⟨_,_,_,I3.ext (I3.put HT.out 9 _ rfl) ((Fl _).alloc _)⟩
      · clear hB0
        have hq:=HEQ.out W3 (some B) m e;go_wp2_with fail
        go_meet
        case rel=>exact⟨_,_,_,HT⟩
    case rest =>
    clear HT hB0;obtain⟨B',m',e',HT⟩:=hcut;generalize wc=W4 at *;go_step;obtain⟨b0,b1,b2,b3,b4,b5,b6,b7,b8,lb⟩:=Lo HT.out.1;have C:=Hd (C1.out W4 HT.out.2.2.2.1)
    go_upto_region 7 with (first
      | (go_at_call 73;refine C.out.mono ?_;rintro e w5 ⟨rfl,hx⟩;have HH:=Hd (I3.ext HT.out hx);have z6:=cell_of HH.out.2.2.1 6 _ rfl;have pf6:=Zi HH.out.2.2.1 6;have lg:=lt_of_cell z6)
      | fail)
    have HT2:Hid (I3 w kd pu ⟨idx,id,cls,pos,st,fi,sf⟩ rb rz g A' n' c' B' m' e' (p1.getD ⟨#[]⟩) ⟨#[]⟩ ⟨#[]⟩ _):=I3.put HH.out 6 _ rfl;clear b0 b1 b2 b3 b4 b5 b6 b7 b8 lb C HT HH z6 pf6 lg hx;generalize World.setCell _ ⟨g,6,none⟩ _=W5 at *;have HT:=HT2;clear HT2;obtain⟨b0,b1,b2,b3,b4,b5,b6,b7,b8,lb⟩:=Lo HT.out.1;have C:=Hd (C2.out W5 HT.out.2.2.2.1)
    go_upto_region 8 with (first
      | (go_at_call 74;refine C.out.mono ?_;rintro e w5 ⟨rfl,hx⟩;have HH:=Hd (I3.ext HT.out hx);have z6:=cell_of HH.out.2.2.1 7 _ rfl;have pf6:=Zi HH.out.2.2.1 7;have lg:=lt_of_cell z6)
      | fail)
    have HT2:Hid (I3 w kd pu ⟨idx,id,cls,pos,st,fi,sf⟩ rb rz g A' n' c' B' m' e' (p1.getD ⟨#[]⟩) (p2.getD ⟨#[]⟩) ⟨#[]⟩ _):=I3.put HH.out 7 _ rfl;clear b0 b1 b2 b3 b4 b5 b6 b7 b8 lb C HT HH z6 pf6 lg hx;generalize World.setCell _ ⟨g,7,none⟩ _=W6 at *;have HT:=HT2;clear HT2;obtain⟨b0,b1,b2,b3,b4,b5,b6,b7,b8,lb⟩:=Lo HT.out.1;have C:=Hd (C3.out W6 HT.out.2.2.2.1)
    go_upto_region 9 with (first
      | (go_at_call 75;refine C.out.mono ?_;rintro e w5 ⟨rfl,hx⟩;have HH:=Hd (I3.ext HT.out hx);have z6:=cell_of HH.out.2.2.1 8 _ rfl;have pf6:=Zi HH.out.2.2.1 8;have lg:=lt_of_cell z6)
      | fail)
    have HT2:Hid (I3 w kd pu ⟨idx,id,cls,pos,st,fi,sf⟩ rb rz g A' n' c' B' m' e' (p1.getD ⟨#[]⟩) (p2.getD ⟨#[]⟩) (p3.getD ⟨#[]⟩) _):=I3.put HH.out 8 _ rfl;clear b0 b1 b2 b3 b4 b5 b6 b7 b8 lb C HT HH z6 pf6 lg hx;generalize World.setCell _ ⟨g,8,none⟩ _=W7 at *;have HT:=HT2;clear HT2;have y0:=cell_of HT.out.2.2.1 0 _ rfl;have z0:=cell_of HT.out.2.1 0 _ rfl;have pf0:=Zi HT.out.2.1 0;have y1:=cell_of HT.out.2.2.1 1 _ rfl;have z1:=cell_of HT.out.2.1 1 _ rfl;have pf1:=Zi HT.out.2.1 1;have y2:=cell_of HT.out.2.2.1 2 _ rfl;have z2:=cell_of HT.out.2.1 2 _ rfl;have pf2:=Zi HT.out.2.1 2;have y3:=cell_of HT.out.2.2.1 3 _ rfl;have z3:=cell_of HT.out.2.1 3 _ rfl;have pf3:=Zi HT.out.2.1 3;have y4:=cell_of HT.out.2.2.1 4 _ rfl;have z4:=cell_of HT.out.2.1 4 _ rfl;have pf4:=Zi HT.out.2.1 4;have y5:=cell_of HT.out.2.2.1 5 _ rfl;have z5:=cell_of HT.out.2.1 5 _ rfl;have pf5:=Zi HT.out.2.1 5;have y6:=cell_of HT.out.2.2.1 6 _ rfl;have z6:=cell_of HT.out.2.1 6 _ rfl;have pf6:=Zi HT.out.2.1 6;have y7:=cell_of HT.out.2.2.1 7 _ rfl;have z7:=cell_of HT.out.2.1 7 _ rfl;have pf7:=Zi HT.out.2.1 7;have y8:=cell_of HT.out.2.2.1 8 _ rfl;have z8:=cell_of HT.out.2.1 8 _ rfl;have pf8:=Zi HT.out.2.1 8;have y9:=cell_of HT.out.2.2.1 9 _ rfl;have z9:=cell_of HT.out.2.1 9 _ rfl;have pf9:=Zi HT.out.2.1 9;have ly:=lt_of_cell y0;have lz:=lt_of_cell z0;go_wp2_with fail
    have P10:=Zl5 (.int .i64 id) (.int .i64 (st:Int)) (.int .i64 (fi:Int)) (.string sf) (.string (Ye cls)) (.slice A' n' c') (.string (p1.getD ⟨#[]⟩)) (.string (p2.getD ⟨#[]⟩)) (.string (p3.getD ⟨#[]⟩)) (.slice B' m' e') HT.out.2.1;have XE:Zf w _:=HT.out.2.2.2.1.trans P10.2 (λk hk q=>by have:=HT.out.2.2.2.2;omega);have P10:=P10.1;clear y0 z0 pf0 y1 z1 pf1 y2 z2 pf2 y3 z3 pf3 y4 z4 pf4 y5 z5 pf5 y6 z6 pf6 y7 z7 pf7 y8 z8 pf8 y9 z9 pf9;clear ly lz HT;generalize World.setCell _ ⟨rz,9,none⟩ _=W8 at *;have z0:=cell_of P10 0 _ rfl;have z1:=cell_of P10 1 _ rfl;have z2:=cell_of P10 2 _ rfl;have z3:=cell_of P10 3 _ rfl;have z4:=cell_of P10 4 _ rfl;have z5:=cell_of P10 5 _ rfl;have z6:=cell_of P10 6 _ rfl;have z7:=cell_of P10 7 _ rfl;have z8:=cell_of P10 8 _ rfl;have z9:=cell_of P10 9 _ rfl;clear P10;refine bodyPost_ret (by simp[results,Tryz.results81,z0,z1,z2,z3,z4,z5,z6,z7,z8,z9,go_sem];try rfl) rfl ?_;exact⟨⟨_,rfl,_,_,_,_,_,_,rfl⟩,XE⟩
end
end Go.Proofs.YtlfoalomaofejaaGreatDoor
