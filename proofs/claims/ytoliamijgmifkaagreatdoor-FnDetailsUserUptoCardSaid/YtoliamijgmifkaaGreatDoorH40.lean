/- The methods of tokens: String. -/
import Derived.Test.YtoliamijgmifkaaGreatDoorH39
import Derived.Lib.ItoaLen
set_option linter.all false
set_option maxRecDepth 100000
set_option maxHeartbeats 4000000
namespace Go.Proofs.YtoliamijgmifkaaGreatDoor
section
open Go.RowKit DT SS TR LT Go
def Dq(n:Int):ByteArray:=⟨(Lib.itoa n).toArray⟩
def tx3(idx:Nat)(id:Int)(cls pos st fi:Nat)(sf:ByteArray):ByteArray:=(Dq (idx:Int))++⟨#[58]⟩
def tx7(idx:Nat)(id:Int)(cls pos st fi:Nat)(sf:ByteArray):ByteArray:=(tx3 idx id cls pos st fi sf)++(strOfNums (Lib.quoteZ Lib.goPrintTabs sf))
def tx8(idx:Nat)(id:Int)(cls pos st fi:Nat)(sf:ByteArray):ByteArray:=(tx7 idx id cls pos st fi sf)++⟨#[32,40]⟩
def Zh8(idx:Nat)(id:Int)(cls pos st fi:Nat)(sf:ByteArray):ByteArray:=(tx8 idx id cls pos st fi sf)++(Dq (pos:Int))
def Zh7(idx:Nat)(id:Int)(cls pos st fi:Nat)(sf:ByteArray):ByteArray:=(Zh8 idx id cls pos st fi sf)++⟨#[58,32]⟩
def Zh6(idx:Nat)(id:Int)(cls pos st fi:Nat)(sf:ByteArray):ByteArray:=(Zh7 idx id cls pos st fi sf)++(Dq (st:Int))
def Zh5(idx:Nat)(id:Int)(cls pos st fi:Nat)(sf:ByteArray):ByteArray:=(Zh6 idx id cls pos st fi sf)++⟨#[44,32]⟩
def Zh4(idx:Nat)(id:Int)(cls pos st fi:Nat)(sf:ByteArray):ByteArray:=(Zh5 idx id cls pos st fi sf)++(Dq (fi:Int))
def Zh3(idx:Nat)(id:Int)(cls pos st fi:Nat)(sf:ByteArray):ByteArray:=(Zh4 idx id cls pos st fi sf)++⟨#[41,32]⟩
def Zh2(idx:Nat)(id:Int)(cls pos st fi:Nat)(sf:ByteArray):ByteArray:=(Zh3 idx id cls pos st fi sf)++(Yo cls)
def Zh1(idx:Nat)(id:Int)(cls pos st fi:Nat)(sf:ByteArray):ByteArray:=(Zh2 idx id cls pos st fi sf)++⟨#[32,91]⟩
def Zh0(idx:Nat)(id:Int)(cls pos st fi:Nat)(sf:ByteArray):ByteArray:=(Zh1 idx id cls pos st fi sf)++(Dq id)
def Zmw(idx:Nat)(id:Int)(cls pos st fi:Nat)(sf:ByteArray):ByteArray:=(Zh0 idx id cls pos st fi sf)++⟨#[93]⟩
def Yp(idx:Nat)(id:Int)(pos st fi:Nat)(sf:ByteArray):Prop:=idx<=1000000000/\(-1<=id/\id<=1000000)/\pos<=1000000000/\st<=1000000000/\fi<=1000000000/\sf.size<=1000
theorem Vr(n:Int)(h0:-1<=n)(h1:n<=1000000000):(Dq n).size<=21:=by
 have:=Lib.itoa_length_le n Om Om;unfold Dq;simpa [ByteArray.size] using this
theorem Hr(s:ByteArray)(h:s.size<=1000):(strOfNums (Lib.quoteZ Lib.goPrintTabs s)).size<=10002:=by
 have:=Lib.quoteZ_length_le Lib.goPrintTabs s;rw[strOfNums_size];omega
theorem J6(c:Nat):(Yo c).size<=7:=by
 unfold Yo
 split
 ·decide
 split
 ·decide
 split
 ·decide
 split<;>decide
theorem Zcc{idx:Nat}{id:Int}{cls pos st fi:Nat}{sf:ByteArray}(h:Yp idx id pos st fi sf):(tx3 idx id cls pos st fi sf).size<=22:=by
 unfold tx3;have:=Vr (idx:Int) (by have:=h;unfold Yp at this;omega) (by have:=h;unfold Yp at this;omega);simp only[ByteArray.size_append];have e:(⟨#[58]⟩:ByteArray).size=1:=rfl;omega
theorem Zcb{idx:Nat}{id:Int}{cls pos st fi:Nat}{sf:ByteArray}(h:Yp idx id pos st fi sf):(tx7 idx id cls pos st fi sf).size<=10024:=by
 unfold tx7;have:=Zcc (cls:=cls) h;have:=Hr sf h.2.2.2.2.2;simp only[ByteArray.size_append];omega
theorem Zca{idx:Nat}{id:Int}{cls pos st fi:Nat}{sf:ByteArray}(h:Yp idx id pos st fi sf):(tx8 idx id cls pos st fi sf).size<=10026:=by
 unfold tx8;have:=Zcb (cls:=cls) h;simp only[ByteArray.size_append];have e:(⟨#[32,40]⟩:ByteArray).size=2:=rfl;omega
theorem Cn{idx:Nat}{id:Int}{cls pos st fi:Nat}{sf:ByteArray}(h:Yp idx id pos st fi sf):(Zh8 idx id cls pos st fi sf).size<=10047:=by
 unfold Zh8;have:=Zca (cls:=cls) h;have:=Vr (pos:Int) (by have:=h;unfold Yp at this;omega) (by have:=h;unfold Yp at this;omega);simp only[ByteArray.size_append];omega
theorem Cm{idx:Nat}{id:Int}{cls pos st fi:Nat}{sf:ByteArray}(h:Yp idx id pos st fi sf):(Zh7 idx id cls pos st fi sf).size<=10049:=by
 unfold Zh7;have:=Cn (cls:=cls) h;simp only[ByteArray.size_append];have e:(⟨#[58,32]⟩:ByteArray).size=2:=rfl;omega
theorem Cl{idx:Nat}{id:Int}{cls pos st fi:Nat}{sf:ByteArray}(h:Yp idx id pos st fi sf):(Zh6 idx id cls pos st fi sf).size<=10070:=by
 unfold Zh6;have:=Cm (cls:=cls) h;have:=Vr (st:Int) (by have:=h;unfold Yp at this;omega) (by have:=h;unfold Yp at this;omega);simp only[ByteArray.size_append];omega
theorem Ck{idx:Nat}{id:Int}{cls pos st fi:Nat}{sf:ByteArray}(h:Yp idx id pos st fi sf):(Zh5 idx id cls pos st fi sf).size<=10072:=by
 unfold Zh5;have:=Cl (cls:=cls) h;simp only[ByteArray.size_append];have e:(⟨#[44,32]⟩:ByteArray).size=2:=rfl;omega
theorem Cj{idx:Nat}{id:Int}{cls pos st fi:Nat}{sf:ByteArray}(h:Yp idx id pos st fi sf):(Zh4 idx id cls pos st fi sf).size<=10093:=by
 unfold Zh4;have:=Ck (cls:=cls) h;have:=Vr (fi:Int) (by have:=h;unfold Yp at this;omega) (by have:=h;unfold Yp at this;omega);simp only[ByteArray.size_append];omega
theorem Ch{idx:Nat}{id:Int}{cls pos st fi:Nat}{sf:ByteArray}(h:Yp idx id pos st fi sf):(Zh3 idx id cls pos st fi sf).size<=10095:=by
 unfold Zh3;have:=Cj (cls:=cls) h;simp only[ByteArray.size_append];have e:(⟨#[41,32]⟩:ByteArray).size=2:=rfl;omega
theorem Cg{idx:Nat}{id:Int}{cls pos st fi:Nat}{sf:ByteArray}(h:Yp idx id pos st fi sf):(Zh2 idx id cls pos st fi sf).size<=10102:=by
 unfold Zh2;have:=Ch (cls:=cls) h;have:=J6 cls;simp only[ByteArray.size_append];omega
theorem Ce{idx:Nat}{id:Int}{cls pos st fi:Nat}{sf:ByteArray}(h:Yp idx id pos st fi sf):(Zh1 idx id cls pos st fi sf).size<=10104:=by
 unfold Zh1;have:=Cg (cls:=cls) h;simp only[ByteArray.size_append];have e:(⟨#[32,91]⟩:ByteArray).size=2:=rfl;omega
theorem Zhz{idx:Nat}{id:Int}{cls pos st fi:Nat}{sf:ByteArray}(h:Yp idx id pos st fi sf):(Zh0 idx id cls pos st fi sf).size<=10125:=by
 unfold Zh0;have:=Ce (cls:=cls) h;have:=Vr id (by have:=h;unfold Yp at this;omega) (by have:=h;unfold Yp at this;omega);simp only[ByteArray.size_append];omega
def Zj6(t:Yu):ByteArray:=Zmw t.index t.id t.cls t.pos t.start t.fin t.surf
theorem Zm3{d:Zj}{us:List GRec}(t:Yu)(kd:Nat)(pu:Option Addr)(w:World)(ht:Uf d us t)(hT:Di w) :
  Calls Tryz.prog 46 #[.agg (Yl kd pu t).toArray] w λe w'=>e=.returned (.string (Zj6 t))/\Zg w w':=by
 have mixed:Tryz.prog.follows .mixedOrders=true:=Kr
 obtain⟨n0,n1,n2,n3,n4,n5⟩:=ht.num;have hcl:=ht.cls;clear ht;have X0:Zg w (w.alloc (Zt kd pu t)):=(Fl _).alloc _;obtain⟨idx,id,cls,pos,st,fi,sf⟩:=t;show Calls _ _ _ _ λe w'=>e=.returned (.string (Zmw idx id cls pos st fi sf))/\_
 simp only at n0 n1 n2 n3 n4 n5 hcl;obtain⟨rb,hrb⟩:∃ rb,rb=w.heap.size:=⟨_,rfl⟩;have K1:=alloc_at' w (Zt kd pu ⟨idx,id,cls,pos,st,fi,sf⟩) hrb;go_enter Tryz.func46,Tryz.ntmps46
 have HNU:Hid (Yp idx id pos st fi sf):=Ai1 n0 (Ai1 n1 (Ai1 n2 (Ai1 n3 (Ai1 n4 n5))));clear n0 n1 n2 n3 n4 n5;go_upto_region 1 with fail
 have HX:=Hd X0;have HT:=Hd (hT.ext X0)
 have HSS:Hid (∀ W,Zg (w.alloc (Zt kd pu ⟨idx,id,cls,pos,st,fi,sf⟩)) W->W.cell? ⟨rb,0,none⟩=some (.int .i64 (idx:Int))/\W.cell? ⟨rb,1,none⟩=some (.int .i64 id)/\W.cell? ⟨rb,2,none⟩=some (.int .i64 (cls:Int))/\W.cell? ⟨rb,3,none⟩=some (.int .i64 (pos:Int))/\W.cell? ⟨rb,4,none⟩=some (.int .i64 (st:Int))/\W.cell? ⟨rb,5,none⟩=some (.int .i64 (fi:Int))/\W.cell? ⟨rb,6,none⟩=some (.string sf)):=λW f=>by
  obtain⟨b0,b1,b2,b3,b4,b5,b6,_⟩:=Hg (f.heap K1 (λe=>e));exact⟨b0,b1,b2,b3,b4,b5,b6⟩
 rw[<- hrb];clear hrb X0 hT K1;generalize w.alloc _=w1 at *;refine Yh 34 35 #[false,false,false,false,false,false,false,false,false,false,false,false,false,false,false,false,false,false,false,false,false,false,false,false,false,false,false,false,false,false,false,false,false,false,false] (λW=>Zg w1 W/\W.cell? ⟨rb,0,none⟩=some (.int .i64 (idx:Int))/\W.cell? ⟨rb,1,none⟩=some (.int .i64 id)/\W.cell? ⟨rb,2,none⟩=some (.int .i64 (cls:Int))/\W.cell? ⟨rb,3,none⟩=some (.int .i64 (pos:Int))/\W.cell? ⟨rb,4,none⟩=some (.int .i64 (st:Int))/\W.cell? ⟨rb,5,none⟩=some (.int .i64 (fi:Int))/\W.cell? ⟨rb,6,none⟩=some (.string sf)) mixed rfl rfl (⟨(Fl w1).drew,HSS.out w1.drew ((Fl w1).drew)⟩) (λhS=>?_);refine WL.go [(0,3),(1,4),(4,7),(5,8),(9,12),(10,13),(14,17),(15,18),(19,22),(20,23),(24,27),(25,28),(29,32),(30,33)] ?_;iterate 14 (refine WL.tk (v:=?_) rfl rfl Kr (λ_ _ _ h=>h) (Or.inl ⟨Rf,?_⟩) (by assumption) ?_;rotate_left;(focus (intro w hSw;(try obtain⟨sf',b0,b1,b2,b3,b4,b5,b6⟩:=hSw);go_simp;(try with_reducible rfl)));simp only[Act.put,Sa,Sb1,Sc])
 refine WZ.flowT 1 34 [(2,5,[]),(3,6,[(2,5)]),(6,9,[]),(7,10,[(3,6),(6,9)]),(8,11,[(7,10)]),(11,14,[]),(12,15,[(8,11),(11,14)]),(13,16,[(12,15)]),(16,19,[]),(17,20,[(13,16),(16,19)]),(18,21,[(17,20)]),(21,24,[]),(22,25,[(18,21),(21,24)]),(23,26,[(22,25)]),(26,29,[]),(27,30,[(23,26),(26,29)]),(28,31,[(27,30)]),(31,34,[]),(32,35,[(28,31),(31,34)]),(33,36,[(32,35)])]
  [(2,λv _=>v=.string (Dq (idx:Int))),(3,λv _=>v=.string (tx3 idx id cls pos st fi sf)),(6,λv _=>v=.string (strOfNums (Lib.quoteZ Lib.goPrintTabs sf))),(7,λv _=>v=.string (tx7 idx id cls pos st fi sf)),(8,λv _=>v=.string (tx8 idx id cls pos st fi sf)),(11,λv _=>v=.string (Dq (pos:Int))),(12,λv _=>v=.string (Zh8 idx id cls pos st fi sf)),(13,λv _=>v=.string (Zh7 idx id cls pos st fi sf)),(16,λv _=>v=.string (Dq (st:Int))),(17,λv _=>v=.string (Zh6 idx id cls pos st fi sf)),(18,λv _=>v=.string (Zh5 idx id cls pos st fi sf)),(21,λv _=>v=.string (Dq (fi:Int))),(22,λv _=>v=.string (Zh4 idx id cls pos st fi sf)),(23,λv _=>v=.string (Zh3 idx id cls pos st fi sf)),(26,λv _=>v=.string (Yo cls)),(27,λv _=>v=.string (Zh2 idx id cls pos st fi sf)),(28,λv _=>v=.string (Zh1 idx id cls pos st fi sf)),(31,λv _=>v=.string (Dq id)),(32,λv _=>v=.string (Zh0 idx id cls pos st fi sf)),(33,λv _=>v=.string (Zmw idx id cls pos st fi sf))]
  Kr rfl (λW W' h f=>⟨Z0 h.1 f,HSS.out W' (Z0 h.1 f)⟩) ?_ (by assumption) ?_ (λvals W hx hSw hv=>?_)
 ·simp only[List.forall_mem_cons];exact⟨λv W W' f h=>h,λv W W' f h=>h,λv W W' f h=>h,λv W W' f h=>h,λv W W' f h=>h,λv W W' f h=>h,λv W W' f h=>h,λv W W' f h=>h,λv W W' f h=>h,λv W W' f h=>h,λv W W' f h=>h,λv W W' f h=>h,λv W W' f h=>h,λv W W' f h=>h,λv W W' f h=>h,λv W W' f h=>h,λv W W' f h=>h,λv W W' f h=>h,λv W W' f h=>h,λv W W' f h=>h,λ_ h=>nomatch h⟩
 ·simp only[List.forall_mem_cons];refine⟨⟨_,rfl,λvals W hSw hD Q' K hK=>?_⟩,⟨_,rfl,λvals W hSw hD Q' K hK=>?_⟩,⟨_,rfl,λvals W hSw hD Q' K hK=>?_⟩,⟨_,rfl,λvals W hSw hD Q' K hK=>?_⟩,⟨_,rfl,λvals W hSw hD Q' K hK=>?_⟩,⟨_,rfl,λvals W hSw hD Q' K hK=>?_⟩,⟨_,rfl,λvals W hSw hD Q' K hK=>?_⟩,⟨_,rfl,λvals W hSw hD Q' K hK=>?_⟩,⟨_,rfl,λvals W hSw hD Q' K hK=>?_⟩,⟨_,rfl,λvals W hSw hD Q' K hK=>?_⟩,⟨_,rfl,λvals W hSw hD Q' K hK=>?_⟩,⟨_,rfl,λvals W hSw hD Q' K hK=>?_⟩,⟨_,rfl,λvals W hSw hD Q' K hK=>?_⟩,⟨_,rfl,λvals W hSw hD Q' K hK=>?_⟩,⟨_,rfl,λvals W hSw hD Q' K hK=>?_⟩,⟨_,rfl,λvals W hSw hD Q' K hK=>?_⟩,⟨_,rfl,λvals W hSw hD Q' K hK=>?_⟩,⟨_,rfl,λvals W hSw hD Q' K hK=>?_⟩,⟨_,rfl,λvals W hSw hD Q' K hK=>?_⟩,⟨_,rfl,λvals W hSw hD Q' K hK=>?_⟩,λ_ h=>nomatch h⟩
  ·
   have HSW:=Hd hSw.1;clear hD hSw;simp only[Yi];go_simp;go_wp2_with (go_at_call 82;refine (N8 (idx:Int) W (by have:=HNU.out;unfold Yp at this;omega) (by have:=HNU.out;unfold Yp at this;omega) (HT.out.ext HSW.out)).mono ?_;rintro e w5 ⟨rfl,hx⟩)
   exact hK.out _ _ w5 rfl hx rfl
  ·
   have h2:vals 2=.string (Dq (idx:Int)):=hD (2,5) (by simp);have HSW:=Hd hSw.1;clear hD hSw;simp only[Yi,h2]at hK⊢;clear h2;have q2:=Vr (idx:Int) (by have:=HNU.out;unfold Yp at this;omega) (by have:=HNU.out;unfold Yp at this;omega);have hz:¬ 9223372036854775807<(Dq (idx:Int)).size+1:=Om;clear q2;go_simp;exact hK.out _ _ W rfl (Fl _) rfl
  ·
   have HSW:=Hd hSw.1;clear hD hSw;simp only[Yi];go_simp;go_wp2_with (go_at_call 83;refine (Zim sf W (by have:=HNU.out;unfold Yp at this;omega) (HT.out.ext HSW.out)).mono ?_;rintro e w5 ⟨rfl,hx⟩)
   exact hK.out _ _ w5 rfl hx rfl
  ·
   have h3:vals 3=.string (tx3 idx id cls pos st fi sf):=hD (3,6) (by simp);have h6:vals 6=.string (strOfNums (Lib.quoteZ Lib.goPrintTabs sf)):=hD (6,9) (by simp);have HSW:=Hd hSw.1;clear hD hSw;simp only[Yi,h3,h6]at hK⊢;clear h3 h6;have q3:=Zcc (cls:=cls) HNU.out;have q6:=Hr sf HNU.out.2.2.2.2.2;have hz:¬ 9223372036854775807<(tx3 idx id cls pos st fi sf).size+(strOfNums (Lib.quoteZ Lib.goPrintTabs sf)).size:=Om;clear q3 q6;go_simp;exact hK.out _ _ W rfl (Fl _) rfl
  ·
   have h7:vals 7=.string (tx7 idx id cls pos st fi sf):=hD (7,10) (by simp);have HSW:=Hd hSw.1;clear hD hSw;simp only[Yi,h7]at hK⊢;clear h7;have q7:=Zcb (cls:=cls) HNU.out;have hz:¬ 9223372036854775807<(tx7 idx id cls pos st fi sf).size+2:=Om;clear q7;go_simp;exact hK.out _ _ W rfl (Fl _) rfl
  ·
   have HSW:=Hd hSw.1;clear hD hSw;simp only[Yi];go_simp;go_wp2_with (go_at_call 82;refine (N8 (pos:Int) W (by have:=HNU.out;unfold Yp at this;omega) (by have:=HNU.out;unfold Yp at this;omega) (HT.out.ext HSW.out)).mono ?_;rintro e w5 ⟨rfl,hx⟩)
   exact hK.out _ _ w5 rfl hx rfl
  ·
   have h8:vals 8=.string (tx8 idx id cls pos st fi sf):=hD (8,11) (by simp);have h11:vals 11=.string (Dq (pos:Int)):=hD (11,14) (by simp);have HSW:=Hd hSw.1;clear hD hSw;simp only[Yi,h8,h11]at hK⊢;clear h8 h11;have q8:=Zca (cls:=cls) HNU.out;have q11:=Vr (pos:Int) (by have:=HNU.out;unfold Yp at this;omega) (by have:=HNU.out;unfold Yp at this;omega);have hz:¬ 9223372036854775807<(tx8 idx id cls pos st fi sf).size+(Dq (pos:Int)).size:=Om;clear q8 q11;go_simp;exact hK.out _ _ W rfl (Fl _) rfl
  ·
   have h12:vals 12=.string (Zh8 idx id cls pos st fi sf):=hD (12,15) (by simp);have HSW:=Hd hSw.1;clear hD hSw;simp only[Yi,h12]at hK⊢;clear h12;have q12:=Cn (cls:=cls) HNU.out;have hz:¬ 9223372036854775807<(Zh8 idx id cls pos st fi sf).size+2:=Om;clear q12;go_simp;exact hK.out _ _ W rfl (Fl _) rfl
  ·
   have HSW:=Hd hSw.1;clear hD hSw;simp only[Yi];go_simp;go_wp2_with (go_at_call 82;refine (N8 (st:Int) W (by have:=HNU.out;unfold Yp at this;omega) (by have:=HNU.out;unfold Yp at this;omega) (HT.out.ext HSW.out)).mono ?_;rintro e w5 ⟨rfl,hx⟩)
   exact hK.out _ _ w5 rfl hx rfl
  ·
   have h13:vals 13=.string (Zh7 idx id cls pos st fi sf):=hD (13,16) (by simp);have h16:vals 16=.string (Dq (st:Int)):=hD (16,19) (by simp);have HSW:=Hd hSw.1;clear hD hSw;simp only[Yi,h13,h16]at hK⊢;clear h13 h16;have q13:=Cm (cls:=cls) HNU.out;have q16:=Vr (st:Int) (by have:=HNU.out;unfold Yp at this;omega) (by have:=HNU.out;unfold Yp at this;omega);have hz:¬ 9223372036854775807<(Zh7 idx id cls pos st fi sf).size+(Dq (st:Int)).size:=Om;clear q13 q16;go_simp;exact hK.out _ _ W rfl (Fl _) rfl
  ·
   have h17:vals 17=.string (Zh6 idx id cls pos st fi sf):=hD (17,20) (by simp);have HSW:=Hd hSw.1;clear hD hSw;simp only[Yi,h17]at hK⊢;clear h17;have q17:=Cl (cls:=cls) HNU.out;have hz:¬ 9223372036854775807<(Zh6 idx id cls pos st fi sf).size+2:=Om;clear q17;go_simp;exact hK.out _ _ W rfl (Fl _) rfl
  ·
   have HSW:=Hd hSw.1;clear hD hSw;simp only[Yi];go_simp;go_wp2_with (go_at_call 82;refine (N8 (fi:Int) W (by have:=HNU.out;unfold Yp at this;omega) (by have:=HNU.out;unfold Yp at this;omega) (HT.out.ext HSW.out)).mono ?_;rintro e w5 ⟨rfl,hx⟩)
   exact hK.out _ _ w5 rfl hx rfl
  ·
   have h18:vals 18=.string (Zh5 idx id cls pos st fi sf):=hD (18,21) (by simp);have h21:vals 21=.string (Dq (fi:Int)):=hD (21,24) (by simp);have HSW:=Hd hSw.1;clear hD hSw;simp only[Yi,h18,h21]at hK⊢;clear h18 h21;have q18:=Ck (cls:=cls) HNU.out;have q21:=Vr (fi:Int) (by have:=HNU.out;unfold Yp at this;omega) (by have:=HNU.out;unfold Yp at this;omega);have hz:¬ 9223372036854775807<(Zh5 idx id cls pos st fi sf).size+(Dq (fi:Int)).size:=Om;clear q18 q21;go_simp;exact hK.out _ _ W rfl (Fl _) rfl
  ·
   have h22:vals 22=.string (Zh4 idx id cls pos st fi sf):=hD (22,25) (by simp);have HSW:=Hd hSw.1;clear hD hSw;simp only[Yi,h22]at hK⊢;clear h22;have q22:=Cj (cls:=cls) HNU.out;have hz:¬ 9223372036854775807<(Zh4 idx id cls pos st fi sf).size+2:=Om;clear q22;go_simp;exact hK.out _ _ W rfl (Fl _) rfl
  ·
   have HSW:=Hd hSw.1;clear hD hSw;simp only[Yi];go_simp;go_wp2_with (go_at_call 47;refine (Zbo cls hcl W).mono ?_;rintro e w5 ⟨rfl,hx⟩)
   exact hK.out _ _ w5 rfl hx rfl
  ·
   have h23:vals 23=.string (Zh3 idx id cls pos st fi sf):=hD (23,26) (by simp);have h26:vals 26=.string (Yo cls):=hD (26,29) (by simp);have HSW:=Hd hSw.1;clear hD hSw;simp only[Yi,h23,h26]at hK⊢;clear h23 h26;have q23:=Ch (cls:=cls) HNU.out;have q26:=J6 cls;have hz:¬ 9223372036854775807<(Zh3 idx id cls pos st fi sf).size+(Yo cls).size:=Om;clear q23 q26;go_simp;exact hK.out _ _ W rfl (Fl _) rfl
  ·
   have h27:vals 27=.string (Zh2 idx id cls pos st fi sf):=hD (27,30) (by simp);have HSW:=Hd hSw.1;clear hD hSw;simp only[Yi,h27]at hK⊢;clear h27;have q27:=Cg (cls:=cls) HNU.out;have hz:¬ 9223372036854775807<(Zh2 idx id cls pos st fi sf).size+2:=Om;clear q27;go_simp;exact hK.out _ _ W rfl (Fl _) rfl
  ·
   have HSW:=Hd hSw.1;clear hD hSw;simp only[Yi];go_simp;go_wp2_with (go_at_call 82;refine (N8 id W (by have:=HNU.out;unfold Yp at this;omega) (by have:=HNU.out;unfold Yp at this;omega) (HT.out.ext HSW.out)).mono ?_;rintro e w5 ⟨rfl,hx⟩)
   exact hK.out _ _ w5 rfl hx rfl
  ·
   have h28:vals 28=.string (Zh1 idx id cls pos st fi sf):=hD (28,31) (by simp);have h31:vals 31=.string (Dq id):=hD (31,34) (by simp);have HSW:=Hd hSw.1;clear hD hSw;simp only[Yi,h28,h31]at hK⊢;clear h28 h31;have q28:=Ce (cls:=cls) HNU.out;have q31:=Vr id (by have:=HNU.out;unfold Yp at this;omega) (by have:=HNU.out;unfold Yp at this;omega);have hz:¬ 9223372036854775807<(Zh1 idx id cls pos st fi sf).size+(Dq id).size:=Om;clear q28 q31;go_simp;exact hK.out _ _ W rfl (Fl _) rfl
  ·
   have h32:vals 32=.string (Zh0 idx id cls pos st fi sf):=hD (32,35) (by simp);have HSW:=Hd hSw.1;clear hD hSw;simp only[Yi,h32]at hK⊢;clear h32;have q32:=Zhz (cls:=cls) HNU.out;have hz:¬ 9223372036854775807<(Zh0 idx id cls pos st fi sf).size+1:=Om;clear q32;go_simp;exact hK.out _ _ W rfl (Fl _) rfl
 ·have h33:vals 33=.string (Zmw idx id cls pos st fi sf):=hv (33,36,[(32,35)]) (by simp);simp only[Yi,List.map_cons,List.map_nil,Act.put,Sa,Sb1,Sc,h33];clear hv h33;generalize vals 2=v2 at *;generalize vals 3=v3 at *;generalize vals 6=v6 at *;generalize vals 7=v7 at *;generalize vals 8=v8 at *;generalize vals 11=v11 at *;generalize vals 12=v12 at *;generalize vals 13=v13 at *;generalize vals 16=v16 at *;generalize vals 17=v17 at *;generalize vals 18=v18 at *;generalize vals 21=v21 at *;generalize vals 22=v22 at *;generalize vals 23=v23 at *;generalize vals 26=v26 at *;generalize vals 27=v27 at *;generalize vals 28=v28 at *;generalize vals 31=v31 at *;generalize vals 32=v32 at *;have HW:=Hd (Z0 HX.out hSw.1);clear hx;refine WZ.last rfl Kr Kr (λK hK=>?_);go_simp;refine hK.out _ _ ?_;clear hK K;go_wp2_with fail
  first|go_ret|go_ret2
  exact⟨rfl,HW.out⟩
end
section
open Go.RowKit DT SS TR LT Go
abbrev TTD:TypeId:=99
def Zgd(t:Yu)(b r p:ByteArray)(v:Value):Prop:=∃ A n c B m e,v=.agg #[.int .i64 t.id,.int .i64 (t.start:Int),.int .i64 (t.fin:Int),.string t.surf,.string (Yo t.cls),.slice A n c,.string b,.string r,.string p,.slice B m e]
theorem Dw{W:World}{g:Nat}{T:TypeId}{cs:Array Value}(j:Nat)(v:Value)(cs':Array Value)(e:cs.setIfInBounds j v=cs')(h:W.heap[g]?=some (.cells cs T (0,0)) ):(W.setCell ⟨g,j,none⟩ v).heap[g]?=some (.cells cs' T (0,0))/\Fr (λk=>k=g) W (W.setCell ⟨g,j,none⟩ v):=by
 subst e;exact⟨Ya h j v,(Fl W).setCell ⟨g,j,none⟩ v (λ_=>rfl)⟩
theorem Zol{W:World}{g:Nat}{T:TypeId}{a0 a1 a2 a3 a4 a5 a6 a7 a8 a9:Value}(v0 v1 v2 v3 v4 v5 v6 v7 v8 v9:Value)(h:W.heap[g]?=some (.cells #[a0,a1,a2,a3,a4,a5,a6,a7,a8,a9] T (0,0))):((((((((((W.setCell ⟨g,0,none⟩ v0).setCell ⟨g,1,none⟩ v1).setCell ⟨g,2,none⟩ v2).setCell ⟨g,3,none⟩ v3).setCell ⟨g,4,none⟩ v4).setCell ⟨g,5,none⟩ v5).setCell ⟨g,6,none⟩ v6).setCell ⟨g,7,none⟩ v7).setCell ⟨g,8,none⟩ v8).setCell ⟨g,9,none⟩ v9).heap[g]?=some (.cells #[v0,v1,v2,v3,v4,v5,v6,v7,v8,v9] T (0,0))/\Fr (λj=>j=g) W ((((((((((W.setCell ⟨g,0,none⟩ v0).setCell ⟨g,1,none⟩ v1).setCell ⟨g,2,none⟩ v2).setCell ⟨g,3,none⟩ v3).setCell ⟨g,4,none⟩ v4).setCell ⟨g,5,none⟩ v5).setCell ⟨g,6,none⟩ v6).setCell ⟨g,7,none⟩ v7).setCell ⟨g,8,none⟩ v8).setCell ⟨g,9,none⟩ v9):=by
 have s0:=Dw 0 v0 #[v0,a1,a2,a3,a4,a5,a6,a7,a8,a9] rfl h;generalize World.setCell _ ⟨g,0,none⟩ v0=W0 at *;have s1:=Dw 1 v1 #[v0,v1,a2,a3,a4,a5,a6,a7,a8,a9] rfl s0.1;generalize World.setCell _ ⟨g,1,none⟩ v1=W1 at *;have s2:=Dw 2 v2 #[v0,v1,v2,a3,a4,a5,a6,a7,a8,a9] rfl s1.1;generalize World.setCell _ ⟨g,2,none⟩ v2=W2 at *;have s3:=Dw 3 v3 #[v0,v1,v2,v3,a4,a5,a6,a7,a8,a9] rfl s2.1;generalize World.setCell _ ⟨g,3,none⟩ v3=W3 at *;have s4:=Dw 4 v4 #[v0,v1,v2,v3,v4,a5,a6,a7,a8,a9] rfl s3.1;generalize World.setCell _ ⟨g,4,none⟩ v4=W4 at *;have s5:=Dw 5 v5 #[v0,v1,v2,v3,v4,v5,a6,a7,a8,a9] rfl s4.1;generalize World.setCell _ ⟨g,5,none⟩ v5=W5 at *;have s6:=Dw 6 v6 #[v0,v1,v2,v3,v4,v5,v6,a7,a8,a9] rfl s5.1;generalize World.setCell _ ⟨g,6,none⟩ v6=W6 at *;have s7:=Dw 7 v7 #[v0,v1,v2,v3,v4,v5,v6,v7,a8,a9] rfl s6.1;generalize World.setCell _ ⟨g,7,none⟩ v7=W7 at *;have s8:=Dw 8 v8 #[v0,v1,v2,v3,v4,v5,v6,v7,v8,a9] rfl s7.1;generalize World.setCell _ ⟨g,8,none⟩ v8=W8 at *;have s9:=Dw 9 v9 #[v0,v1,v2,v3,v4,v5,v6,v7,v8,v9] rfl s8.1;generalize World.setCell _ ⟨g,9,none⟩ v9=W9 at *;exact⟨s9.1,(((((((((s0.2).trans s1.2 (λ_ _ q=>q)).trans s2.2 (λ_ _ q=>q)).trans s3.2 (λ_ _ q=>q)).trans s4.2 (λ_ _ q=>q)).trans s5.2 (λ_ _ q=>q)).trans s6.2 (λ_ _ q=>q)).trans s7.2 (λ_ _ q=>q)).trans s8.2 (λ_ _ q=>q)).trans s9.2 (λ_ _ q=>q)⟩
def Dr(w:World)(kd:Nat)(pu:Option Addr)(t:Yu)(rb rz g:Nat)(A:Option Addr)(n c:Nat)(B:Option Addr)(m e:Nat)(b r p:ByteArray)(W:World):Prop :=
 W.heap[rb]?=some (Zt kd pu t)/\W.heap[rz]?=some (.cells #[.int .i64 0,.int .i64 0,.int .i64 0,.string ⟨#[]⟩,.string ⟨#[]⟩,.slice none 0 0,.string ⟨#[]⟩,.string ⟨#[]⟩,.string ⟨#[]⟩,.slice none 0 0] TTD (0,0)) /\
 W.heap[g]?=some (.cells #[.int .i64 t.id,.int .i64 (t.start:Int),.int .i64 (t.fin:Int),.string t.surf,.string (Yo t.cls),.slice A n c,.string b,.string r,.string p,.slice B m e] TTD (0,0))/\Zg w W/\w.heap.size<=rb/\rb<g/\rz<g/\rb<rz
theorem Dr.ext{w W W':World}{kd:Nat}{pu:Option Addr}{t:Yu}{rb rz g:Nat}{A:Option Addr}{n c:Nat}{B:Option Addr}{m e:Nat}{b r p:ByteArray}(h:Dr w kd pu t rb rz g A n c B m e b r p W)(f:Zg W W'):Dr w kd pu t rb rz g A n c B m e b r p W' :=
 ⟨f.heap h.1 id,f.heap h.2.1 id,f.heap h.2.2.1 id,Z0 h.2.2.2.1 f,h.2.2.2.2⟩
theorem Dr.put{w W:World}{kd:Nat}{pu:Option Addr}{t:Yu}{rb rz g:Nat}{A:Option Addr}{n c:Nat}{B:Option Addr}{m e:Nat}{b r p:ByteArray}(h:Dr w kd pu t rb rz g A n c B m e b r p W){A':Option Addr}{n' c':Nat}{B':Option Addr}{m' e':Nat}{b' r' p':ByteArray}(j:Nat)(v:Value)
  (hv:(#[.int .i64 t.id,.int .i64 (t.start:Int),.int .i64 (t.fin:Int),.string t.surf,.string (Yo t.cls),.slice A n c,.string b,.string r,.string p,.slice B m e]:Array Value).setIfInBounds j v=#[.int .i64 t.id,.int .i64 (t.start:Int),.int .i64 (t.fin:Int),.string t.surf,.string (Yo t.cls),.slice A' n' c',.string b',.string r',.string p',.slice B' m' e']) :
  Dr w kd pu t rb rz g A' n' c' B' m' e' b' r' p' (W.setCell ⟨g,j,none⟩ v):=by
 obtain⟨h1,h2,h3,h4,h5,h6,h7,h8⟩:=h;have F:Fr (λk=>k=g) W (W.setCell ⟨g,j,none⟩ v):=(Fl W).setCell ⟨g,j,none⟩ v (λ_=>rfl);refine⟨F.heap h1 Om,F.heap h2 Om,?_,h4.trans F (λk hk q=>Om),h5,h6,h7,h8⟩;rw[<- hv];exact Ya h3 j v
theorem Zl4{d:Zj}{us:List GRec}(t:Yu)(kd H U:Nat)(pu:Option Addr)(w:World)(ht:Uf d us t)(hD:Vf d us kd pu H U w) :
    Calls Tryz.prog 49 #[.agg (Yl kd pu t).toArray] w λe w'=>(∃ v,e=.returned v/\Zgd t ((Z3 d us t Rn).getD ⟨#[]⟩) ((Z3 d us t Rl).getD ⟨#[]⟩) ((Z3 d us t Rm).getD ⟨#[]⟩) v)/\Zg w w':=by
  have mixed:Tryz.prog.follows .mixedOrders=true:=Kr
  have heq:∀ (W:World) (B:Option Addr) (l k:Nat),(binOp .eql 43 (.slice B l k) (.slice none 0 0)).run Tryz.prog W=.ok (.bool B.isNone) W:=λW B l k=>Go.run_eql_slice_nil W _ _ B l k Tryz.underlying43
  have HEQ:=Hd heq;clear heq;have hcl:=ht.cls
  have CP:Hid (∀ W,Zg w W->Calls Tryz.prog 39 #[.agg (Yl kd pu t).toArray] W λe w'=>(∃ A n c,e=.returned (.slice A n c)/\(A=none->n=0/\c=0))/\Zg W w'):=λW f=>(Zgu ht (hD.ext f)).mono λe w' ⟨v,h1,h2,h3⟩=>by
    obtain⟨A,c,rfl⟩:=Yf h2;exact⟨⟨_,_,_,h1,λe=>by subst e;exact⟨by have:=Mj h2;rw[this];rfl,Mk h2⟩⟩,h3⟩
  have CF:Hid (∀ W,Zg w W->Calls Tryz.prog 38 #[.agg (Yl kd pu t).toArray] W λe w'=>(∃ A n c,e=.returned (.slice A n c)/\(A=none->n=0/\c=0))/\Zg W w'):=λW f=>(Zd2 ht (hD.ext f)).mono λe w' ⟨v,h1,h2,h3⟩=>by
    obtain⟨A,c,rfl⟩:=Yf h2;exact⟨⟨_,_,_,h1,λe=>by subst e;exact⟨by have:=Mj h2;rw[this];rfl,Mk h2⟩⟩,h3⟩
  have C1:Hid (∀ W,Zg w W->Calls Tryz.prog 41 #[.agg (Yl kd pu t).toArray] W λe w'=>e=.returned (Yx (Z3 d us t Rn))/\Zg W w'):=λW f=>Hz ht (hD.ext f)
  have C2:Hid (∀ W,Zg w W->Calls Tryz.prog 42 #[.agg (Yl kd pu t).toArray] W λe w'=>e=.returned (Yx (Z3 d us t Rl))/\Zg W w'):=λW f=>Hx ht (hD.ext f)
  have C3:Hid (∀ W,Zg w W->Calls Tryz.prog 43 #[.agg (Yl kd pu t).toArray] W λe w'=>e=.returned (Yx (Z3 d us t Rm))/\Zg W w'):=λW f=>Hy ht (hD.ext f)
  clear ht hD;generalize Z3 d us t Rn=p1 at *;generalize Z3 d us t Rl=p2 at *;generalize Z3 d us t Rm=p3 at *;have X0:Zg w (w.alloc (Zt kd pu t)):=(Fl _).alloc _;obtain⟨idx,id,cls,pos,st,fi,sf⟩:=t;unfold Zgd;simp only at hcl⊢;obtain⟨rb,hrb⟩:∃ rb,rb=w.heap.size:=⟨_,rfl⟩;have K1:=alloc_at' w (Zt kd pu ⟨idx,id,cls,pos,st,fi,sf⟩) hrb;go_enter Tryz.func49,Tryz.ntmps49
  go_upto_region 1 with fail
  rw[<- hrb];obtain⟨rz,hrz⟩:∃ rz,rz=rb+1:=⟨_,rfl⟩;rw[<- hrz];have K2:=alloc_at' (w.alloc (Zt kd pu ⟨idx,id,cls,pos,st,fi,sf⟩)) (.cells #[.int .i64 0,.int .i64 0,.int .i64 0,.string ⟨#[]⟩,.string ⟨#[]⟩,.slice none 0 0,.string ⟨#[]⟩,.string ⟨#[]⟩,.string ⟨#[]⟩,.slice none 0 0] TTD) (show rz=_ by rw[hrz,Za,hrb]);have K1:=((Fl (w.alloc (Zt kd pu ⟨idx,id,cls,pos,st,fi,sf⟩))).alloc (.cells #[.int .i64 0,.int .i64 0,.int .i64 0,.string ⟨#[]⟩,.string ⟨#[]⟩,.slice none 0 0,.string ⟨#[]⟩,.string ⟨#[]⟩,.string ⟨#[]⟩,.slice none 0 0] TTD):Zg _ _).heap K1 (λe=>e);have X1:Zg w ((w.alloc (Zt kd pu ⟨idx,id,cls,pos,st,fi,sf⟩)).alloc (.cells #[.int .i64 0,.int .i64 0,.int .i64 0,.string ⟨#[]⟩,.string ⟨#[]⟩,.slice none 0 0,.string ⟨#[]⟩,.string ⟨#[]⟩,.string ⟨#[]⟩,.slice none 0 0] TTD)):=X0.alloc _;have HRW:=Hd ((Om:w.heap.size<=rb/\rz=rb+1));have HX:=Hd X1;clear hrb hrz X0 X1;generalize World.alloc (World.alloc _ _) _=w1 at *;have HK:=Hd (Ai1 K1 K2);have HSS:Hid (∀ W,Zg w1 W->W.cell? ⟨rb,0,none⟩=some (.int .i64 (idx:Int))/\W.cell? ⟨rb,1,none⟩=some (.int .i64 id)/\W.cell? ⟨rb,2,none⟩=some (.int .i64 (cls:Int))/\W.cell? ⟨rb,3,none⟩=some (.int .i64 (pos:Int))/\W.cell? ⟨rb,4,none⟩=some (.int .i64 (st:Int))/\W.cell? ⟨rb,5,none⟩=some (.int .i64 (fi:Int))/\W.cell? ⟨rb,6,none⟩=some (.string sf)/\W.cell? ⟨rb,7,none⟩=some (.pointer (some ⟨kd,0,none⟩))/\W.cell? ⟨rb,8,none⟩=some (.pointer pu)/\rb<W.heap.size):=λW f=>Hg (f.heap K1 (λe=>e))
  clear K1 K2;refine Yh 17 18 #[false,false,false,false,false,false,false,false,false,false,false,false,false,false,false,false,false,false] (λW=>Zg w1 W/\W.cell? ⟨rb,0,none⟩=some (.int .i64 (idx:Int))/\W.cell? ⟨rb,1,none⟩=some (.int .i64 id)/\W.cell? ⟨rb,2,none⟩=some (.int .i64 (cls:Int))/\W.cell? ⟨rb,3,none⟩=some (.int .i64 (pos:Int))/\W.cell? ⟨rb,4,none⟩=some (.int .i64 (st:Int))/\W.cell? ⟨rb,5,none⟩=some (.int .i64 (fi:Int))/\W.cell? ⟨rb,6,none⟩=some (.string sf)/\W.cell? ⟨rb,7,none⟩=some (.pointer (some ⟨kd,0,none⟩))/\W.cell? ⟨rb,8,none⟩=some (.pointer pu)/\rb<W.heap.size) mixed rfl rfl (⟨(Fl w1).drew,HSS.out w1.drew ((Fl w1).drew)⟩) (λhS=>?_);refine WL.go [(0,4),(1,5),(2,6),(3,7),(4,8),(5,9),(6,10),(7,11),(8,12),(9,13),(11,15),(13,17)] ?_;iterate 12 (refine WL.tk (v:=?_) rfl rfl Kr (λ_ _ _ h=>h) (Or.inl ⟨Rf,?_⟩) (by assumption) ?_;rotate_left;(focus (intro w hSw;(try obtain⟨sf',b0,b1,b2,b3,b4,b5,b6,b7,b8,lb⟩:=hSw);go_simp;(try with_reducible rfl)));simp only[Act.put,Sa,Sb1,Sc])
  refine WZ.flowT 1 17 [(10,14,[]),(12,16,[]),(14,18,[]),(15,19,[(10,14),(12,16),(14,18)]),(16,3,[])]
    [(10,λv _=>v=.string (Yo cls)),(12,λv _=>∃ A n c,v=.slice A n c/\(A=none->n=0/\c=0)),(14,λv _=>∃ A n c,v=.slice A n c/\(A=none->n=0/\c=0)),
     (15,λv _=>∃ A n c B m e,v=.agg #[.int .i64 id,.int .i64 (st:Int),.int .i64 (fi:Int),.string sf,.string (Yo cls),.slice A n c,.string ⟨#[]⟩,.string ⟨#[]⟩,.string ⟨#[]⟩,.slice B m e]/\(A=none->n=0/\c=0)/\(B=none->m=0/\e=0)),
     (16,λv W=>∃ g,v=.pointer (some ⟨g,0,none⟩)/\w1.heap.size<=g/\W.heap[g]?=some (.cells #[.int .i64 0,.int .i64 0,.int .i64 0,.string ⟨#[]⟩,.string ⟨#[]⟩,.slice none 0 0,.string ⟨#[]⟩,.string ⟨#[]⟩,.string ⟨#[]⟩,.slice none 0 0] TTD (0,0)))]
    Kr rfl (λW W' h f=>⟨Z0 h.1 f,HSS.out W' (Z0 h.1 f)⟩) ?_ (by assumption) ?_ (λvals W hx hSw hv=>?_)
  · simp only[List.forall_mem_cons]
    exact⟨λv W W' f h=>h,λv W W' f h=>h,λv W W' f h=>h,λv W W' f h=>h,λv W W' f ⟨g,h1,h2,h3⟩=>⟨g,h1,h2,f.heap h3 (λe=>e)⟩,λ_ h=>nomatch h⟩
  · simp only[List.forall_mem_cons]
    refine⟨⟨_,rfl,λvals W hSw hD Q' K hK=>?_⟩,⟨_,rfl,λvals W hSw hD Q' K hK=>?_⟩,⟨_,rfl,λvals W hSw hD Q' K hK=>?_⟩,⟨_,rfl,λvals W hSw hD Q' K hK=>?_⟩,⟨_,rfl,λvals W hSw hD Q' K hK=>?_⟩,λ_ h=>nomatch h⟩
    · have HSW:=Hd hSw.1
      clear hD hSw;simp only[Yi];go_simp;go_wp2_with (go_at_call 47;refine (Zbo cls hcl W).mono ?_;rintro e w5 ⟨rfl,hx⟩)
      exact hK.out _ _ w5 rfl hx rfl
    · have HSW:=Hd hSw.1
      clear hD hSw;simp only[Yi];go_simp;go_wp2_with (go_at_call 39;refine (CP.out W (Z0 HX.out HSW.out)).mono ?_;rintro e w5 ⟨⟨A,n,c,rfl,hnc⟩,hx⟩)
      exact hK.out _ _ w5 rfl hx ⟨_,_,_,rfl,hnc⟩
    · have HSW:=Hd hSw.1
      clear hD hSw;simp only[Yi];go_simp;go_wp2_with (go_at_call 38;refine (CF.out W (Z0 HX.out HSW.out)).mono ?_;rintro e w5 ⟨⟨A,n,c,rfl,hnc⟩,hx⟩)
      exact hK.out _ _ w5 rfl hx ⟨_,_,_,rfl,hnc⟩
    · have h10:vals 10=.string (Yo cls):=hD (10,14) (by simp)
      obtain⟨A,n,c,h12,q12⟩:∃ A n c,vals 12=.slice A n c/\(A=none->n=0/\c=0):=hD (12,16) (by simp);obtain⟨B,m,e,h14,q14⟩:∃ A n c,vals 14=.slice A n c/\(A=none->n=0/\c=0):=hD (14,18) (by simp);clear hD hSw;simp only[Yi,h10,h12,h14]at hK⊢;clear h10 h12 h14;go_simp;exact hK.out _ _ W rfl (Fl _) ⟨_,_,_,_,_,_,rfl,q12,q14⟩
    · have HSW:=Hd hSw.1
      clear hD hSw;simp only[Yi];go_simp;exact hK.out _ _ _ rfl ((Fl _).alloc _) ⟨_,rfl,HSW.out.size,alloc_at _ _⟩
  · obtain⟨A,n,c,B,m,e,h15,hA0,hB0⟩:∃ A n c B m e,vals 15=.agg #[.int .i64 id,.int .i64 (st:Int),.int .i64 (fi:Int),.string sf,.string (Yo cls),.slice A n c,.string ⟨#[]⟩,.string ⟨#[]⟩,.string ⟨#[]⟩,.slice B m e]/\(A=none->n=0/\c=0)/\(B=none->m=0/\e=0):=hv (15,19,[(10,14),(12,16),(14,18)]) (by simp)
    obtain⟨g,h16,hg,hgc⟩:∃ g,vals 16=.pointer (some ⟨g,0,none⟩)/\w1.heap.size<=g/\W.heap[g]?=some (.cells #[.int .i64 0,.int .i64 0,.int .i64 0,.string ⟨#[]⟩,.string ⟨#[]⟩,.slice none 0 0,.string ⟨#[]⟩,.string ⟨#[]⟩,.string ⟨#[]⟩,.slice none 0 0] TTD (0,0)):=hv (16,3,[]) (by simp);simp only[Yi,List.map_cons,List.map_nil,Act.put,Sa,Sb1,Sc,h15,h16];clear hv h15 h16;generalize vals 10=v10 at *;generalize vals 12=v12 at *;generalize vals 14=v14 at *;have HW:=Hd hx;have HG:=Hd (Ai1 hg hgc);clear hx;have z0:=cell_of hgc 0 _ rfl;have z1:=cell_of hgc 1 _ rfl;have z2:=cell_of hgc 2 _ rfl;have z3:=cell_of hgc 3 _ rfl;have z4:=cell_of hgc 4 _ rfl;have z5:=cell_of hgc 5 _ rfl;have z6:=cell_of hgc 6 _ rfl;have z7:=cell_of hgc 7 _ rfl;have z8:=cell_of hgc 8 _ rfl;have z9:=cell_of hgc 9 _ rfl;have pf:=Zm hgc;have pf0:=pf 0;have pf1:=pf 1;have pf2:=pf 2;have pf3:=pf 3;have pf4:=pf 4;have pf5:=pf 5;have pf6:=pf 6;have pf7:=pf 7;have pf8:=pf 8;have pf9:=pf 9;have lg:=lt_of_cell z0;clear pf hg hgc;refine WZ.last rfl Kr Kr (λK hK=>?_);go_simp;refine hK.out _ _ ?_;clear hK K;have P10:=Zol (.int .i64 id) (.int .i64 (st:Int)) (.int .i64 (fi:Int)) (.string sf) (.string (Yo cls)) (.slice A n c) (.string ⟨#[]⟩) (.string ⟨#[]⟩) (.string ⟨#[]⟩) (.slice B m e) HG.out.2;have hrw:=HRW.out;have hk1:=HK.out;have hgl:=HG.out.1;have hrzl:=(Gs1.1 hk1.2).1;have hwe:Zg w1 W:=hSw.1;have HT:Hid (Dr w kd pu ⟨idx,id,cls,pos,st,fi,sf⟩ rb rz g A n c B m e ⟨#[]⟩ ⟨#[]⟩ ⟨#[]⟩ _):=⟨P10.2.heap (hwe.heap hk1.1 (λe=>e)) Om,P10.2.heap (hwe.heap hk1.2 (λe=>e)) Om,P10.1,(Z0 HX.out hwe).trans P10.2 (λk hk q=>by have:=HX.out.size;omega),hrw.1,Om,Om,Om⟩;clear P10 hrw hk1 hgl hrzl hwe z0 z1 z2 z3 z4 z5 z6 z7 z8 z9 pf0 pf1 pf2 pf3 pf4 pf5 pf6 pf7 pf8 pf9 lg HG HW HK HRW HSS hS hSw HX;generalize World.setCell _ ⟨g,9,none⟩ _=W2 at *;go_step;go_step;refine wp_seq_k λK hK=>?_
    go_cut [] from 20 to 24 (λwr=>∃ A n c,Hid (Dr w kd pu ⟨idx,id,cls,pos,st,fi,sf⟩ rb rz g A n c B m e ⟨#[]⟩ ⟨#[]⟩ ⟨#[]⟩ wr))
    case first =>
      have z5:=cell_of HT.out.2.2.1 5 _ rfl;have pf5:=Zm HT.out.2.2.1 5;have lg:=lt_of_cell z5;rcases A with _|A
      · obtain⟨rfl,rfl⟩:=hA0 rfl
        have hq:=HEQ.out W2 none 0 0;go_wp2_with fail
        go_meet
        case rel=>exact⟨_,_,_,Dr.ext (Dr.put HT.out 5 _ rfl) ((Fl _).alloc _)⟩
      · clear hA0
        have hq:=HEQ.out W2 (some A) n c;go_wp2_with fail
        go_meet
        case rel=>exact⟨_,_,_,HT⟩
    case rest =>
    clear HT hA0;obtain⟨A',n',c',HT⟩:=hcut;generalize wc=W3 at *;go_step;refine wp_seq_k λK2 hK2=>?_
    go_cut [] from 25 to 29 (λwr=>∃ B m e,Hid (Dr w kd pu ⟨idx,id,cls,pos,st,fi,sf⟩ rb rz g A' n' c' B m e ⟨#[]⟩ ⟨#[]⟩ ⟨#[]⟩ wr))
    case first =>
      have z5:=cell_of HT.out.2.2.1 9 _ rfl;have pf5:=Zm HT.out.2.2.1 9;have lg:=lt_of_cell z5;rcases B with _|B
      · obtain⟨rfl,rfl⟩:=hB0 rfl
        have hq:=HEQ.out W3 none 0 0;go_wp2_with fail
        go_meet
        case rel=>exact⟨_,_,_,Dr.ext (Dr.put HT.out 9 _ rfl) ((Fl _).alloc _)⟩
      · clear hB0
        have hq:=HEQ.out W3 (some B) m e;go_wp2_with fail
        go_meet
        case rel=>exact⟨_,_,_,HT⟩
    case rest =>
    clear HT hB0;obtain⟨B',m',e',HT⟩:=hcut;generalize wc=W4 at *;go_step;obtain⟨b0,b1,b2,b3,b4,b5,b6,b7,b8,lb⟩:=Hg HT.out.1;have C:=Hd (C1.out W4 HT.out.2.2.2.1)
    go_upto_region 7 with (first
      | (go_at_call 41;refine C.out.mono ?_;rintro e w5 ⟨rfl,hx⟩;have HH:=Hd (Dr.ext HT.out hx);have z6:=cell_of HH.out.2.2.1 6 _ rfl;have pf6:=Zm HH.out.2.2.1 6;have lg:=lt_of_cell z6)
      | fail)
    have HT2:Hid (Dr w kd pu ⟨idx,id,cls,pos,st,fi,sf⟩ rb rz g A' n' c' B' m' e' (p1.getD ⟨#[]⟩) ⟨#[]⟩ ⟨#[]⟩ _):=Dr.put HH.out 6 _ rfl;clear b0 b1 b2 b3 b4 b5 b6 b7 b8 lb C HT HH z6 pf6 lg hx;generalize World.setCell _ ⟨g,6,none⟩ _=W5 at *;have HT:=HT2;clear HT2;obtain⟨b0,b1,b2,b3,b4,b5,b6,b7,b8,lb⟩:=Hg HT.out.1;have C:=Hd (C2.out W5 HT.out.2.2.2.1)
    go_upto_region 8 with (first
      | (go_at_call 42;refine C.out.mono ?_;rintro e w5 ⟨rfl,hx⟩;have HH:=Hd (Dr.ext HT.out hx);have z6:=cell_of HH.out.2.2.1 7 _ rfl;have pf6:=Zm HH.out.2.2.1 7;have lg:=lt_of_cell z6)
      | fail)
    have HT2:Hid (Dr w kd pu ⟨idx,id,cls,pos,st,fi,sf⟩ rb rz g A' n' c' B' m' e' (p1.getD ⟨#[]⟩) (p2.getD ⟨#[]⟩) ⟨#[]⟩ _):=Dr.put HH.out 7 _ rfl;clear b0 b1 b2 b3 b4 b5 b6 b7 b8 lb C HT HH z6 pf6 lg hx;generalize World.setCell _ ⟨g,7,none⟩ _=W6 at *;have HT:=HT2;clear HT2;obtain⟨b0,b1,b2,b3,b4,b5,b6,b7,b8,lb⟩:=Hg HT.out.1;have C:=Hd (C3.out W6 HT.out.2.2.2.1)
    go_upto_region 9 with (first
      | (go_at_call 43;refine C.out.mono ?_;rintro e w5 ⟨rfl,hx⟩;have HH:=Hd (Dr.ext HT.out hx);have z6:=cell_of HH.out.2.2.1 8 _ rfl;have pf6:=Zm HH.out.2.2.1 8;have lg:=lt_of_cell z6)
      | fail)
    have HT2:Hid (Dr w kd pu ⟨idx,id,cls,pos,st,fi,sf⟩ rb rz g A' n' c' B' m' e' (p1.getD ⟨#[]⟩) (p2.getD ⟨#[]⟩) (p3.getD ⟨#[]⟩) _):=Dr.put HH.out 8 _ rfl;clear b0 b1 b2 b3 b4 b5 b6 b7 b8 lb C HT HH z6 pf6 lg hx;generalize World.setCell _ ⟨g,8,none⟩ _=W7 at *;have HT:=HT2;clear HT2;have y0:=cell_of HT.out.2.2.1 0 _ rfl;have z0:=cell_of HT.out.2.1 0 _ rfl;have pf0:=Zm HT.out.2.1 0;have y1:=cell_of HT.out.2.2.1 1 _ rfl;have z1:=cell_of HT.out.2.1 1 _ rfl;have pf1:=Zm HT.out.2.1 1;have y2:=cell_of HT.out.2.2.1 2 _ rfl;have z2:=cell_of HT.out.2.1 2 _ rfl;have pf2:=Zm HT.out.2.1 2;have y3:=cell_of HT.out.2.2.1 3 _ rfl;have z3:=cell_of HT.out.2.1 3 _ rfl;have pf3:=Zm HT.out.2.1 3;have y4:=cell_of HT.out.2.2.1 4 _ rfl;have z4:=cell_of HT.out.2.1 4 _ rfl;have pf4:=Zm HT.out.2.1 4;have y5:=cell_of HT.out.2.2.1 5 _ rfl;have z5:=cell_of HT.out.2.1 5 _ rfl;have pf5:=Zm HT.out.2.1 5;have y6:=cell_of HT.out.2.2.1 6 _ rfl;have z6:=cell_of HT.out.2.1 6 _ rfl;have pf6:=Zm HT.out.2.1 6;have y7:=cell_of HT.out.2.2.1 7 _ rfl;have z7:=cell_of HT.out.2.1 7 _ rfl;have pf7:=Zm HT.out.2.1 7;have y8:=cell_of HT.out.2.2.1 8 _ rfl;have z8:=cell_of HT.out.2.1 8 _ rfl;have pf8:=Zm HT.out.2.1 8;have y9:=cell_of HT.out.2.2.1 9 _ rfl;have z9:=cell_of HT.out.2.1 9 _ rfl;have pf9:=Zm HT.out.2.1 9;have ly:=lt_of_cell y0;have lz:=lt_of_cell z0;go_wp2_with fail
    have P10:=Zol (.int .i64 id) (.int .i64 (st:Int)) (.int .i64 (fi:Int)) (.string sf) (.string (Yo cls)) (.slice A' n' c') (.string (p1.getD ⟨#[]⟩)) (.string (p2.getD ⟨#[]⟩)) (.string (p3.getD ⟨#[]⟩)) (.slice B' m' e') HT.out.2.1;have XE:Zg w _:=HT.out.2.2.2.1.trans P10.2 (λk hk q=>by have:=HT.out.2.2.2.2;omega);have P10:=P10.1;clear y0 z0 pf0 y1 z1 pf1 y2 z2 pf2 y3 z3 pf3 y4 z4 pf4 y5 z5 pf5 y6 z6 pf6 y7 z7 pf7 y8 z8 pf8 y9 z9 pf9;clear ly lz HT;generalize World.setCell _ ⟨rz,9,none⟩ _=W8 at *;have z0:=cell_of P10 0 _ rfl;have z1:=cell_of P10 1 _ rfl;have z2:=cell_of P10 2 _ rfl;have z3:=cell_of P10 3 _ rfl;have z4:=cell_of P10 4 _ rfl;have z5:=cell_of P10 5 _ rfl;have z6:=cell_of P10 6 _ rfl;have z7:=cell_of P10 7 _ rfl;have z8:=cell_of P10 8 _ rfl;have z9:=cell_of P10 9 _ rfl;clear P10;refine bodyPost_ret (by simp[results,Tryz.results49,z0,z1,z2,z3,z4,z5,z6,z7,z8,z9,go_sem];try rfl) rfl ?_;exact⟨⟨_,rfl,_,_,_,_,_,_,rfl⟩,XE⟩
end
section
open Go.RowKit DT SS TR LT Go
theorem Zqd{w wr:World}{B kd c n:Nat}{pu:Option Addr}{A:Option Addr}{ts:List Yu}{S:Nat->Prop}(h:w.ownsRow B 88 9 (.slice A n c) n (ts.flatMap (Yl kd pu)))(f:Fr S w wr)(hS:∀ j,B<=j->j<w.heap.size->¬ S j)(hn:n=ts.length)(i:Nat)(hi:i<ts.length) :
  ∃ g,A=some ⟨g,0,none⟩/\g<wr.heap.size/\∀ j (hj:j<9),wr.cell? ⟨g,i*9+j,none⟩=(Yl kd pu ts[i])[j]?:=by
 subst hn
 have hget:∀ j,j<9->∃ g,A=some ⟨g,0,none⟩/\wr.cell? ⟨g,i*9+j,none⟩=(Yl kd pu ts[i])[j]? /\ g<wr.heap.size:=λj hj=>by
  obtain⟨g,c',e,ec,hg⟩:=Xq h (i*9+j) Om;simp only[Value.slice.injEq]at e;obtain⟨rfl,_,rfl⟩:=e;rw[flat_get (Yl kd pu) 9 (λ_=>rfl) ts i j hi hj]at ec;have h9:j<(Yl kd pu ts[i]).length:=hj;rw[Ge h9]at ec⊢;have hgl:=lt_of_cell ec;exact⟨g,rfl,f.cell ec (hS g (Yy (g:=g) h hg) hgl),Nat.lt_of_lt_of_le hgl f.size⟩
 obtain⟨g,rfl,_,hg⟩:=hget 0 Om;refine⟨g,rfl,hg,λj hj=>?_⟩;obtain⟨g',eg,e,_⟩:=hget j hj;cases eg;exact e
end
section
open Go Go.RowKit DT SS TR LT
section
variable{gd:Nat}{T:TypeId}{tg:List Value}{W W' W'':World}
def Rq(gd:Nat)(T:TypeId)(tg:List Value)(W W':World):Prop:=Fr (λk=>k=gd) W W'/\∀ cs:List Value,W.heap[gd]?=some (.cells cs.toArray T (0,0))->cs.length=tg.length->∃ cs':List Value,W'.heap[gd]?=some (.cells cs'.toArray T (0,0))/\cs'.length=tg.length/\∀ j:Nat,cs[j]?=tg[j]? -> cs'[j]?=tg[j]?
theorem Rq.refl(W:World):Rq gd T tg W W:=⟨Fl W,λcs h hl=>⟨cs,h,hl,λ_ e=>e⟩⟩
theorem Rq.trans(h:Rq gd T tg W W')(k:Rq gd T tg W' W''):Rq gd T tg W W'':=by
 refine⟨h.1.then k.1,λcs hc hl=>?_⟩;obtain⟨cs',h1,h2,h3⟩:=h.2 cs hc hl;obtain⟨cs2,k1,k2,k3⟩:=k.2 cs' h1 h2;exact⟨cs2,k1,k2,λj e=>k3 j (h3 j e)⟩
theorem Rq.set(j:Nat)(v:Value)(hj:tg[j]?=some v):Rq gd T tg W (W.setCell ⟨gd,j,none⟩ v):=by
 refine⟨(Fr.refl (λk=>k=gd) W).setCell ⟨gd,j,none⟩ v (λ_=>rfl),λcs hc hl=>⟨cs.set j v,?_,by rw[List.length_set,hl],λi e=>?_⟩⟩
 ·have:=Ya hc j v;rwa[List.setIfInBounds_toArray]at this
 ·rw[List.getElem?_set];have hjl:=(Gl.1 hj).1
  split
  ·next q =>
   subst q;rw[hj]
   split
   ·rfl
   ·omega
  ·exact e
def D7(gd:Nat)(T:TypeId)(tg:List Value)(dirty:List Nat)(W:World):Prop:=∃ cs:List Value,W.heap[gd]?=some (.cells cs.toArray T (0,0))/\cs.length=tg.length/\∀ j:Nat,j ∉ dirty->cs[j]?=tg[j]?
theorem D7.keep{l:List Nat}(h:D7 gd T tg l W)(e:Rq gd T tg W W'):D7 gd T tg l W':=by
 obtain⟨cs,h1,h2,h3⟩:=h;obtain⟨cs',k1,k2,k3⟩:=e.2 cs h1 h2;exact⟨cs',k1,k2,λj hj=>k3 j (h3 j hj)⟩
theorem D7.cell{l:List Nat}(h:D7 gd T tg l W)(j:Nat)(hj:j<tg.length):(∃ x,W.cell? ⟨gd,j,none⟩=some x)/\W.frozen? ⟨gd,j,none⟩=false/\gd<W.heap.size:=by
 obtain⟨cs,h1,h2,_⟩:=h;have hc:=cell_of h1 j (cs[j]' Om) (by simp[(Om:j<cs.length)]);exact⟨⟨_,hc⟩,Zm h1 j,lt_of_cell hc⟩
def Dn(gd:Nat)(T:TypeId)(tg:List Value)(j:Nat)(W:World):Prop:=∃ cs:List Value,W.heap[gd]?=some (.cells cs.toArray T (0,0))/\cs.length=tg.length/\cs[j]?=tg[j]?
theorem Dn.keep{j:Nat}(h:Dn gd T tg j W)(e:Rq gd T tg W W'):Dn gd T tg j W':=by
 obtain⟨cs,h1,h2,h3⟩:=h;obtain⟨cs',k1,k2,k3⟩:=e.2 cs h1 h2;exact⟨cs',k1,k2,k3 j h3⟩
theorem D7.set{l:List Nat}(h:D7 gd T tg l W)(j:Nat)(v:Value)(hj:tg[j]?=some v):Dn gd T tg j (W.setCell ⟨gd,j,none⟩ v):=by
 obtain⟨cs,h1,h2,_⟩:=h;have hjl:=(Gl.1 hj).1;refine⟨cs.set j v,?_,by rw[List.length_set,h2],by rw[hj,List.getElem?_set_self Om]⟩;have:=Ya h1 j v;rwa[List.setIfInBounds_toArray]at this
theorem D7.fin{l:List Nat}(h:D7 gd T tg l W)(hd:∀ j∈l,Dn gd T tg j W):W.heap[gd]?=some (.cells tg.toArray T (0,0)):=by
 obtain⟨cs,h1,h2,h3⟩:=h
 have:cs=tg:=by
  apply List.ext_getElem?;intro j;by_cases hj:j∈l
  ·obtain⟨cs',k1,_,k3⟩:=hd j hj;rw[h1]at k1;simp only[Option.some.injEq,Obj.cells.injEq,and_true]at k1;have:=congrArg Array.toList k1;simp only at this;rw[this];exact k3
  ·exact h3 j hj
 rw[<- this];exact h1
end
end
end Go.Proofs.YtoliamijgmifkaaGreatDoor
