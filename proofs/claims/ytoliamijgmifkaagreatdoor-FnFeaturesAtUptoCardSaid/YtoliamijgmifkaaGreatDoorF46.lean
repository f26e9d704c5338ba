/- The methods of tokens: String. · The methods of tokens: NewTokenData. · impl.FeaturesAt. · Stores to -/
import Derived.Test.YtoliamijgmifkaaGreatDoorF45
import Derived.Lib.ItoaLen
set_option linter.all false
set_option maxRecDepth 100000
set_option maxHeartbeats 4000000
namespace Go.Proofs.YtoliamijgmifkaaGreatDoor
section
open Go.RowKit DT SS TR LT Go
def itB(n:Int):ByteArray:=⟨(Lib.itoa n).toArray⟩
def tx3(idx:Nat)(id:Int)(cls pos st fi:Nat)(sf:ByteArray):ByteArray:=(itB (idx:Int))++⟨#[58]⟩
def tx7(idx:Nat)(id:Int)(cls pos st fi:Nat)(sf:ByteArray):ByteArray:=(tx3 idx id cls pos st fi sf)++(strOfNums (Lib.quoteZ Lib.goPrintTabs sf))
def tx8(idx:Nat)(id:Int)(cls pos st fi:Nat)(sf:ByteArray):ByteArray:=(tx7 idx id cls pos st fi sf)++⟨#[32,40]⟩
def Zcw(idx:Nat)(id:Int)(cls pos st fi:Nat)(sf:ByteArray):ByteArray:=(tx8 idx id cls pos st fi sf)++(itB (pos:Int))
def Zcv(idx:Nat)(id:Int)(cls pos st fi:Nat)(sf:ByteArray):ByteArray:=(Zcw idx id cls pos st fi sf)++⟨#[58,32]⟩
def Zcu(idx:Nat)(id:Int)(cls pos st fi:Nat)(sf:ByteArray):ByteArray:=(Zcv idx id cls pos st fi sf)++(itB (st:Int))
def Zct(idx:Nat)(id:Int)(cls pos st fi:Nat)(sf:ByteArray):ByteArray:=(Zcu idx id cls pos st fi sf)++⟨#[44,32]⟩
def Zcs(idx:Nat)(id:Int)(cls pos st fi:Nat)(sf:ByteArray):ByteArray:=(Zct idx id cls pos st fi sf)++(itB (fi:Int))
def Zcr(idx:Nat)(id:Int)(cls pos st fi:Nat)(sf:ByteArray):ByteArray:=(Zcs idx id cls pos st fi sf)++⟨#[41,32]⟩
def Zcq(idx:Nat)(id:Int)(cls pos st fi:Nat)(sf:ByteArray):ByteArray:=(Zcr idx id cls pos st fi sf)++(Yu cls)
def Zcp(idx:Nat)(id:Int)(cls pos st fi:Nat)(sf:ByteArray):ByteArray:=(Zcq idx id cls pos st fi sf)++⟨#[32,91]⟩
def Zco(idx:Nat)(id:Int)(cls pos st fi:Nat)(sf:ByteArray):ByteArray:=(Zcp idx id cls pos st fi sf)++(itB id)
def Zhp(idx:Nat)(id:Int)(cls pos st fi:Nat)(sf:ByteArray):ByteArray:=(Zco idx id cls pos st fi sf)++⟨#[93]⟩
def Yf(idx:Nat)(id:Int)(pos st fi:Nat)(sf:ByteArray):Prop:=idx<=1000000000/\(-1<=id/\id<=1000000)/\pos<=1000000000/\st<=1000000000/\fi<=1000000000/\sf.size<=1000
theorem Wx(n:Int)(h0:-1<=n)(h1:n<=1000000000):(itB n).size<=21:=by
 have:=Lib.itoa_length_le n (by omega) (by omega);unfold itB;simpa [ByteArray.size] using this
theorem My(s:ByteArray)(h:s.size<=1000):(strOfNums (Lib.quoteZ Lib.goPrintTabs s)).size<=10002:=by
 have:=Lib.quoteZ_length_le Lib.goPrintTabs s;rw[strOfNums_size];omega
theorem Nc(c:Nat):(Yu c).size<=7:=by
 unfold Yu
 split
 ·decide
 split
 ·decide
 split
 ·decide
 split <;> decide
theorem Ee{idx:Nat}{id:Int}{cls pos st fi:Nat}{sf:ByteArray}(h:Yf idx id pos st fi sf):(tx3 idx id cls pos st fi sf).size<=22:=by
 unfold tx3;have:=Wx (idx:Int) (by have:=h;unfold Yf at this;omega) (by have:=h;unfold Yf at this;omega);simp only[ByteArray.size_append];have e:(⟨#[58]⟩:ByteArray).size=1:=rfl;omega
theorem Ed{idx:Nat}{id:Int}{cls pos st fi:Nat}{sf:ByteArray}(h:Yf idx id pos st fi sf):(tx7 idx id cls pos st fi sf).size<=10024:=by
 unfold tx7;have:=Ee (cls:=cls) h;have:=My sf h.2.2.2.2.2;simp only[ByteArray.size_append];omega
theorem Ec{idx:Nat}{id:Int}{cls pos st fi:Nat}{sf:ByteArray}(h:Yf idx id pos st fi sf):(tx8 idx id cls pos st fi sf).size<=10026:=by
 unfold tx8;have:=Ed (cls:=cls) h;simp only[ByteArray.size_append];have e:(⟨#[32,40]⟩:ByteArray).size=2:=rfl;omega
theorem J6{idx:Nat}{id:Int}{cls pos st fi:Nat}{sf:ByteArray}(h:Yf idx id pos st fi sf):(Zcw idx id cls pos st fi sf).size<=10047:=by
 unfold Zcw;have:=Ec (cls:=cls) h;have:=Wx (pos:Int) (by have:=h;unfold Yf at this;omega) (by have:=h;unfold Yf at this;omega);simp only[ByteArray.size_append];omega
theorem J5{idx:Nat}{id:Int}{cls pos st fi:Nat}{sf:ByteArray}(h:Yf idx id pos st fi sf):(Zcv idx id cls pos st fi sf).size<=10049:=by
 unfold Zcv;have:=J6 (cls:=cls) h;simp only[ByteArray.size_append];have e:(⟨#[58,32]⟩:ByteArray).size=2:=rfl;omega
theorem J4{idx:Nat}{id:Int}{cls pos st fi:Nat}{sf:ByteArray}(h:Yf idx id pos st fi sf):(Zcu idx id cls pos st fi sf).size<=10070:=by
 unfold Zcu;have:=J5 (cls:=cls) h;have:=Wx (st:Int) (by have:=h;unfold Yf at this;omega) (by have:=h;unfold Yf at this;omega);simp only[ByteArray.size_append];omega
theorem J3{idx:Nat}{id:Int}{cls pos st fi:Nat}{sf:ByteArray}(h:Yf idx id pos st fi sf):(Zct idx id cls pos st fi sf).size<=10072:=by
 unfold Zct;have:=J4 (cls:=cls) h;simp only[ByteArray.size_append];have e:(⟨#[44,32]⟩:ByteArray).size=2:=rfl;omega
theorem J2{idx:Nat}{id:Int}{cls pos st fi:Nat}{sf:ByteArray}(h:Yf idx id pos st fi sf):(Zcs idx id cls pos st fi sf).size<=10093:=by
 unfold Zcs;have:=J3 (cls:=cls) h;have:=Wx (fi:Int) (by have:=h;unfold Yf at this;omega) (by have:=h;unfold Yf at this;omega);simp only[ByteArray.size_append];omega
theorem J1{idx:Nat}{id:Int}{cls pos st fi:Nat}{sf:ByteArray}(h:Yf idx id pos st fi sf):(Zcr idx id cls pos st fi sf).size<=10095:=by
 unfold Zcr;have:=J2 (cls:=cls) h;simp only[ByteArray.size_append];have e:(⟨#[41,32]⟩:ByteArray).size=2:=rfl;omega
theorem J0{idx:Nat}{id:Int}{cls pos st fi:Nat}{sf:ByteArray}(h:Yf idx id pos st fi sf):(Zcq idx id cls pos st fi sf).size<=10102:=by
 unfold Zcq;have:=J1 (cls:=cls) h;have:=Nc cls;simp only[ByteArray.size_append];omega
theorem Jz{idx:Nat}{id:Int}{cls pos st fi:Nat}{sf:ByteArray}(h:Yf idx id pos st fi sf):(Zcp idx id cls pos st fi sf).size<=10104:=by
 unfold Zcp;have:=J0 (cls:=cls) h;simp only[ByteArray.size_append];have e:(⟨#[32,91]⟩:ByteArray).size=2:=rfl;omega
theorem Zcn{idx:Nat}{id:Int}{cls pos st fi:Nat}{sf:ByteArray}(h:Yf idx id pos st fi sf):(Zco idx id cls pos st fi sf).size<=10125:=by
 unfold Zco;have:=Jz (cls:=cls) h;have:=Wx id (by have:=h;unfold Yf at this;omega) (by have:=h;unfold Yf at this;omega);simp only[ByteArray.size_append];omega
def Zjm(t:Yn):ByteArray:=Zhp t.index t.id t.cls t.pos t.start t.fin t.surf
theorem Zhw{d:Zf}{us:List GRec}(t:Yn)(kd:Nat)(pu:Option Addr)(w:World)(ht:Vs d us t)(hT:Tbs w) :
  Calls Tryz.prog 46 #[.agg (Z9 kd pu t).toArray] w fun e w'=>e = .returned (.string (Zjm t))/\Ext w w':=by
 have mixed:Tryz.prog.follows .mixedOrders=true:=by kernel_rfl
 obtain⟨n0,n1,n2,n3,n4,n5⟩:=ht.num;have hcl:=ht.cls;clear ht;have X0:Ext w (w.alloc (Zn kd pu t)):=(Fr.refl _ _).alloc _;obtain⟨idx,id,cls,pos,st,fi,sf⟩:=t;show Calls _ _ _ _ fun e w'=>e = .returned (.string (Zhp idx id cls pos st fi sf))/\_
 simp only at n0 n1 n2 n3 n4 n5 hcl;obtain⟨rb,hrb⟩:∃ rb,rb=w.heap.size:=⟨_,rfl⟩;have K1:=alloc_at' w (Zn kd pu ⟨idx,id,cls,pos,st,fi,sf⟩) hrb;go_enter Tryz.func46,Tryz.ntmps46
 have HNU:Hid (Yf idx id pos st fi sf):=And.intro n0 (And.intro n1 (And.intro n2 (And.intro n3 (And.intro n4 n5))));clear n0 n1 n2 n3 n4 n5;go_upto_region 1 with fail
 have HX:=Lib.hid X0;have HT:=Lib.hid (hT.ext X0)
 have HSS:Hid (∀ W,Ext (w.alloc (Zn kd pu ⟨idx,id,cls,pos,st,fi,sf⟩)) W->W.cell? ⟨rb,0,none⟩=some (.int .i64 (idx:Int))/\W.cell? ⟨rb,1,none⟩=some (.int .i64 id)/\W.cell? ⟨rb,2,none⟩=some (.int .i64 (cls:Int))/\W.cell? ⟨rb,3,none⟩=some (.int .i64 (pos:Int))/\W.cell? ⟨rb,4,none⟩=some (.int .i64 (st:Int))/\W.cell? ⟨rb,5,none⟩=some (.int .i64 (fi:Int))/\W.cell? ⟨rb,6,none⟩=some (.string sf)):=fun W f=>by
  obtain⟨b0,b1,b2,b3,b4,b5,b6,_⟩:=Nk (f.heap K1 (fun e=>e));exact⟨b0,b1,b2,b3,b4,b5,b6⟩
 rw[<- hrb];clear hrb X0 hT K1;generalize w.alloc _=w1 at *;refine Yd 34 35 #[false,false,false,false,false,false,false,false,false,false,false,false,false,false,false,false,false,false,false,false,false,false,false,false,false,false,false,false,false,false,false,false,false,false,false] (fun W=>Ext w1 W/\W.cell? ⟨rb,0,none⟩=some (.int .i64 (idx:Int))/\W.cell? ⟨rb,1,none⟩=some (.int .i64 id)/\W.cell? ⟨rb,2,none⟩=some (.int .i64 (cls:Int))/\W.cell? ⟨rb,3,none⟩=some (.int .i64 (pos:Int))/\W.cell? ⟨rb,4,none⟩=some (.int .i64 (st:Int))/\W.cell? ⟨rb,5,none⟩=some (.int .i64 (fi:Int))/\W.cell? ⟨rb,6,none⟩=some (.string sf)) mixed rfl rfl (⟨(Fr.refl _ w1).drew,HSS.out w1.drew ((Fr.refl _ w1).drew)⟩) (fun hS=>?_);refine WL.go [(0,3),(1,4),(4,7),(5,8),(9,12),(10,13),(14,17),(15,18),(19,22),(20,23),(24,27),(25,28),(29,32),(30,33)] ?_;iterate 14 (refine WL.tk (v:=?_) rfl rfl (by kernel_rfl) (fun _ _ _ h=>h) (Or.inl ⟨by rfl,?_⟩) (by assumption) ?_;rotate_left;(focus (intro w hSw;(try obtain⟨sf',b0,b1,b2,b3,b4,b5,b6⟩:=hSw);go_simp;(try with_reducible rfl)));simp only[Act.put,List.setIfInBounds_toArray,List.set_cons_zero,List.set_cons_succ])
 refine WZ.flowT 1 34 [(2,5,[]),(3,6,[(2,5)]),(6,9,[]),(7,10,[(3,6),(6,9)]),(8,11,[(7,10)]),(11,14,[]),(12,15,[(8,11),(11,14)]),(13,16,[(12,15)]),(16,19,[]),(17,20,[(13,16),(16,19)]),(18,21,[(17,20)]),(21,24,[]),(22,25,[(18,21),(21,24)]),(23,26,[(22,25)]),(26,29,[]),(27,30,[(23,26),(26,29)]),(28,31,[(27,30)]),(31,34,[]),(32,35,[(28,31),(31,34)]),(33,36,[(32,35)])]
  [(2,fun v _=>v = .string (itB (idx:Int))),(3,fun v _=>v = .string (tx3 idx id cls pos st fi sf)),(6,fun v _=>v = .string (strOfNums (Lib.quoteZ Lib.goPrintTabs sf))),(7,fun v _=>v = .string (tx7 idx id cls pos st fi sf)),(8,fun v _=>v = .string (tx8 idx id cls pos st fi sf)),(11,fun v _=>v = .string (itB (pos:Int))),(12,fun v _=>v = .string (Zcw idx id cls pos st fi sf)),(13,fun v _=>v = .string (Zcv idx id cls pos st fi sf)),(16,fun v _=>v = .string (itB (st:Int))),(17,fun v _=>v = .string (Zcu idx id cls pos st fi sf)),(18,fun v _=>v = .string (Zct idx id cls pos st fi sf)),(21,fun v _=>v = .string (itB (fi:Int))),(22,fun v _=>v = .string (Zcs idx id cls pos st fi sf)),(23,fun v _=>v = .string (Zcr idx id cls pos st fi sf)),(26,fun v _=>v = .string (Yu cls)),(27,fun v _=>v = .string (Zcq idx id cls pos st fi sf)),(28,fun v _=>v = .string (Zcp idx id cls pos st fi sf)),(31,fun v _=>v = .string (itB id)),(32,fun v _=>v = .string (Zco idx id cls pos st fi sf)),(33,fun v _=>v = .string (Zhp idx id cls pos st fi sf))]
  (by kernel_rfl) rfl (fun W W' h f=>⟨Z0 h.1 f,HSS.out W' (Z0 h.1 f)⟩) ?_ (by assumption) ?_ (fun vals W hx hSw hv=>?_)
 ·simp only[List.forall_mem_cons];exact⟨fun v W W' f h=>h,fun v W W' f h=>h,fun v W W' f h=>h,fun v W W' f h=>h,fun v W W' f h=>h,fun v W W' f h=>h,fun v W W' f h=>h,fun v W W' f h=>h,fun v W W' f h=>h,fun v W W' f h=>h,fun v W W' f h=>h,fun v W W' f h=>h,fun v W W' f h=>h,fun v W W' f h=>h,fun v W W' f h=>h,fun v W W' f h=>h,fun v W W' f h=>h,fun v W W' f h=>h,fun v W W' f h=>h,fun v W W' f h=>h,fun _ h=>nomatch h⟩
 ·simp only[List.forall_mem_cons];refine⟨⟨_,rfl,fun vals W hSw hD Q' K hK=>?_⟩,⟨_,rfl,fun vals W hSw hD Q' K hK=>?_⟩,⟨_,rfl,fun vals W hSw hD Q' K hK=>?_⟩,⟨_,rfl,fun vals W hSw hD Q' K hK=>?_⟩,⟨_,rfl,fun vals W hSw hD Q' K hK=>?_⟩,⟨_,rfl,fun vals W hSw hD Q' K hK=>?_⟩,⟨_,rfl,fun vals W hSw hD Q' K hK=>?_⟩,⟨_,rfl,fun vals W hSw hD Q' K hK=>?_⟩,⟨_,rfl,fun vals W hSw hD Q' K hK=>?_⟩,⟨_,rfl,fun vals W hSw hD Q' K hK=>?_⟩,⟨_,rfl,fun vals W hSw hD Q' K hK=>?_⟩,⟨_,rfl,fun vals W hSw hD Q' K hK=>?_⟩,⟨_,rfl,fun vals W hSw hD Q' K hK=>?_⟩,⟨_,rfl,fun vals W hSw hD Q' K hK=>?_⟩,⟨_,rfl,fun vals W hSw hD Q' K hK=>?_⟩,⟨_,rfl,fun vals W hSw hD Q' K hK=>?_⟩,⟨_,rfl,fun vals W hSw hD Q' K hK=>?_⟩,⟨_,rfl,fun vals W hSw hD Q' K hK=>?_⟩,⟨_,rfl,fun vals W hSw hD Q' K hK=>?_⟩,⟨_,rfl,fun vals W hSw hD Q' K hK=>?_⟩,fun _ h=>nomatch h⟩
  ·
   have HSW:=Lib.hid hSw.1;clear hD hSw;simp only[Z8];go_simp;go_wp2_with (go_at_call 82;refine (Qs (idx:Int) W (by have:=HNU.out;unfold Yf at this;omega) (by have:=HNU.out;unfold Yf at this;omega) (HT.out.ext HSW.out)).mono ?_;rintro e w5 ⟨rfl,hx⟩)
   exact hK.out _ _ w5 rfl hx rfl
  ·
   have h2:vals 2 = .string (itB (idx:Int)):=hD (2,5) (by simp);have HSW:=Lib.hid hSw.1;clear hD hSw;simp only[Z8,h2]at hK⊢;clear h2;have q2:=Wx (idx:Int) (by have:=HNU.out;unfold Yf at this;omega) (by have:=HNU.out;unfold Yf at this;omega);have hz:¬ 9223372036854775807<(itB (idx:Int)).size+1:=by omega
   clear q2;go_simp;exact hK.out _ _ W rfl (Fr.refl _ _) rfl
  ·
   have HSW:=Lib.hid hSw.1;clear hD hSw;simp only[Z8];go_simp;go_wp2_with (go_at_call 83;refine (Zdb sf W (by have:=HNU.out;unfold Yf at this;omega) (HT.out.ext HSW.out)).mono ?_;rintro e w5 ⟨rfl,hx⟩)
   exact hK.out _ _ w5 rfl hx rfl
  ·
   have h3:vals 3 = .string (tx3 idx id cls pos st fi sf):=hD (3,6) (by simp);have h6:vals 6 = .string (strOfNums (Lib.quoteZ Lib.goPrintTabs sf)):=hD (6,9) (by simp);have HSW:=Lib.hid hSw.1;clear hD hSw;simp only[Z8,h3,h6]at hK⊢;clear h3 h6;have q3:=Ee (cls:=cls) HNU.out;have q6:=My sf HNU.out.2.2.2.2.2;have hz:¬ 9223372036854775807<(tx3 idx id cls pos st fi sf).size+(strOfNums (Lib.quoteZ Lib.goPrintTabs sf)).size:=by omega
   clear q3 q6;go_simp;exact hK.out _ _ W rfl (Fr.refl _ _) rfl
  ·
   have h7:vals 7 = .string (tx7 idx id cls pos st fi sf):=hD (7,10) (by simp);have HSW:=Lib.hid hSw.1;clear hD hSw;simp only[Z8,h7]at hK⊢;clear h7;have q7:=Ed (cls:=cls) HNU.out;have hz:¬ 9223372036854775807<(tx7 idx id cls pos st fi sf).size+2:=by omega
   clear q7;go_simp;exact hK.out _ _ W rfl (Fr.refl _ _) rfl
  ·
   have HSW:=Lib.hid hSw.1;clear hD hSw;simp only[Z8];go_simp;go_wp2_with (go_at_call 82;refine (Qs (pos:Int) W (by have:=HNU.out;unfold Yf at this;omega) (by have:=HNU.out;unfold Yf at this;omega) (HT.out.ext HSW.out)).mono ?_;rintro e w5 ⟨rfl,hx⟩)
   exact hK.out _ _ w5 rfl hx rfl
  ·
   have h8:vals 8 = .string (tx8 idx id cls pos st fi sf):=hD (8,11) (by simp);have h11:vals 11 = .string (itB (pos:Int)):=hD (11,14) (by simp);have HSW:=Lib.hid hSw.1;clear hD hSw;simp only[Z8,h8,h11]at hK⊢;clear h8 h11;have q8:=Ec (cls:=cls) HNU.out;have q11:=Wx (pos:Int) (by have:=HNU.out;unfold Yf at this;omega) (by have:=HNU.out;unfold Yf at this;omega);have hz:¬ 9223372036854775807<(tx8 idx id cls pos st fi sf).size+(itB (pos:Int)).size:=by omega
   clear q8 q11;go_simp;exact hK.out _ _ W rfl (Fr.refl _ _) rfl
  ·
   have h12:vals 12 = .string (Zcw idx id cls pos st fi sf):=hD (12,15) (by simp);have HSW:=Lib.hid hSw.1;clear hD hSw;simp only[Z8,h12]at hK⊢;clear h12;have q12:=J6 (cls:=cls) HNU.out;have hz:¬ 9223372036854775807<(Zcw idx id cls pos st fi sf).size+2:=by omega
   clear q12;go_simp;exact hK.out _ _ W rfl (Fr.refl _ _) rfl
  ·
   have HSW:=Lib.hid hSw.1;clear hD hSw;simp only[Z8];go_simp;go_wp2_with (go_at_call 82;refine (Qs (st:Int) W (by have:=HNU.out;unfold Yf at this;omega) (by have:=HNU.out;unfold Yf at this;omega) (HT.out.ext HSW.out)).mono ?_;rintro e w5 ⟨rfl,hx⟩)
   exact hK.out _ _ w5 rfl hx rfl
  ·
   have h13:vals 13 = .string (Zcv idx id cls pos st fi sf):=hD (13,16) (by simp);have h16:vals 16 = .string (itB (st:Int)):=hD (16,19) (by simp);have HSW:=Lib.hid hSw.1;clear hD hSw;simp only[Z8,h13,h16]at hK⊢;clear h13 h16;have q13:=J5 (cls:=cls) HNU.out;have q16:=Wx (st:Int) (by have:=HNU.out;unfold Yf at this;omega) (by have:=HNU.out;unfold Yf at this;omega);have hz:¬ 9223372036854775807<(Zcv idx id cls pos st fi sf).size+(itB (st:Int)).size:=by omega
   clear q13 q16;go_simp;exact hK.out _ _ W rfl (Fr.refl _ _) rfl
  ·
   have h17:vals 17 = .string (Zcu idx id cls pos st fi sf):=hD (17,20) (by simp);have HSW:=Lib.hid hSw.1;clear hD hSw;simp only[Z8,h17]at hK⊢;clear h17;have q17:=J4 (cls:=cls) HNU.out;have hz:¬ 9223372036854775807<(Zcu idx id cls pos st fi sf).size+2:=by omega
   clear q17;go_simp;exact hK.out _ _ W rfl (Fr.refl _ _) rfl
  ·
   have HSW:=Lib.hid hSw.1;clear hD hSw;simp only[Z8];go_simp;go_wp2_with (go_at_call 82;refine (Qs (fi:Int) W (by have:=HNU.out;unfold Yf at this;omega) (by have:=HNU.out;unfold Yf at this;omega) (HT.out.ext HSW.out)).mono ?_;rintro e w5 ⟨rfl,hx⟩)
   exact hK.out _ _ w5 rfl hx rfl
  ·
   have h18:vals 18 = .string (Zct idx id cls pos st fi sf):=hD (18,21) (by simp);have h21:vals 21 = .string (itB (fi:Int)):=hD (21,24) (by simp);have HSW:=Lib.hid hSw.1;clear hD hSw;simp only[Z8,h18,h21]at hK⊢;clear h18 h21;have q18:=J3 (cls:=cls) HNU.out;have q21:=Wx (fi:Int) (by have:=HNU.out;unfold Yf at this;omega) (by have:=HNU.out;unfold Yf at this;omega);have hz:¬ 9223372036854775807<(Zct idx id cls pos st fi sf).size+(itB (fi:Int)).size:=by omega
   clear q18 q21;go_simp;exact hK.out _ _ W rfl (Fr.refl _ _) rfl
  ·
   have h22:vals 22 = .string (Zcs idx id cls pos st fi sf):=hD (22,25) (by simp);have HSW:=Lib.hid hSw.1;clear hD hSw;simp only[Z8,h22]at hK⊢;clear h22;have q22:=J2 (cls:=cls) HNU.out;have hz:¬ 9223372036854775807<(Zcs idx id cls pos st fi sf).size+2:=by omega
   clear q22;go_simp;exact hK.out _ _ W rfl (Fr.refl _ _) rfl
  ·
   have HSW:=Lib.hid hSw.1;clear hD hSw;simp only[Z8];go_simp;go_wp2_with (go_at_call 47;refine (Fd cls hcl W).mono ?_;rintro e w5 ⟨rfl,hx⟩)
   exact hK.out _ _ w5 rfl hx rfl
  ·
   have h23:vals 23 = .string (Zcr idx id cls pos st fi sf):=hD (23,26) (by simp);have h26:vals 26 = .string (Yu cls):=hD (26,29) (by simp);have HSW:=Lib.hid hSw.1;clear hD hSw;simp only[Z8,h23,h26]at hK⊢;clear h23 h26;have q23:=J1 (cls:=cls) HNU.out;have q26:=Nc cls;have hz:¬ 9223372036854775807<(Zcr idx id cls pos st fi sf).size+(Yu cls).size:=by omega
   clear q23 q26;go_simp;exact hK.out _ _ W rfl (Fr.refl _ _) rfl
  ·
   have h27:vals 27 = .string (Zcq idx id cls pos st fi sf):=hD (27,30) (by simp);have HSW:=Lib.hid hSw.1;clear hD hSw;simp only[Z8,h27]at hK⊢;clear h27;have q27:=J0 (cls:=cls) HNU.out;have hz:¬ 9223372036854775807<(Zcq idx id cls pos st fi sf).size+2:=by omega
   clear q27;go_simp;exact hK.out _ _ W rfl (Fr.refl _ _) rfl
  ·
   have HSW:=Lib.hid hSw.1;clear hD hSw;simp only[Z8];go_simp;go_wp2_with (go_at_call 82;refine (Qs id W (by have:=HNU.out;unfold Yf at this;omega) (by have:=HNU.out;unfold Yf at this;omega) (HT.out.ext HSW.out)).mono ?_;rintro e w5 ⟨rfl,hx⟩)
   exact hK.out _ _ w5 rfl hx rfl
  ·
   have h28:vals 28 = .string (Zcp idx id cls pos st fi sf):=hD (28,31) (by simp);have h31:vals 31 = .string (itB id):=hD (31,34) (by simp);have HSW:=Lib.hid hSw.1;clear hD hSw;simp only[Z8,h28,h31]at hK⊢;clear h28 h31;have q28:=Jz (cls:=cls) HNU.out;have q31:=Wx id (by have:=HNU.out;unfold Yf at this;omega) (by have:=HNU.out;unfold Yf at this;omega);have hz:¬ 9223372036854775807<(Zcp idx id cls pos st fi sf).size+(itB id).size:=by omega
   clear q28 q31;go_simp;exact hK.out _ _ W rfl (Fr.refl _ _) rfl
  ·
   have h32:vals 32 = .string (Zco idx id cls pos st fi sf):=hD (32,35) (by simp);have HSW:=Lib.hid hSw.1;clear hD hSw;simp only[Z8,h32]at hK⊢;clear h32;have q32:=Zcn (cls:=cls) HNU.out;have hz:¬ 9223372036854775807<(Zco idx id cls pos st fi sf).size+1:=by omega
   clear q32;go_simp;exact hK.out _ _ W rfl (Fr.refl _ _) rfl
 ·have h33:vals 33 = .string (Zhp idx id cls pos st fi sf):=hv (33,36,[(32,35)]) (by simp);simp only[Z8,List.map_cons,List.map_nil,Act.put,List.setIfInBounds_toArray,List.set_cons_zero,List.set_cons_succ,h33];clear hv h33;generalize vals 2=v2 at *;generalize vals 3=v3 at *;generalize vals 6=v6 at *;generalize vals 7=v7 at *;generalize vals 8=v8 at *;generalize vals 11=v11 at *;generalize vals 12=v12 at *;generalize vals 13=v13 at *;generalize vals 16=v16 at *;generalize vals 17=v17 at *;generalize vals 18=v18 at *;generalize vals 21=v21 at *;generalize vals 22=v22 at *;generalize vals 23=v23 at *;generalize vals 26=v26 at *;generalize vals 27=v27 at *;generalize vals 28=v28 at *;generalize vals 31=v31 at *;generalize vals 32=v32 at *;have HW:=Lib.hid (Z0 HX.out hSw.1);clear hx;refine WZ.last rfl (by kernel_rfl) (by kernel_rfl) (fun K hK=>?_);go_simp;refine hK.out _ _ ?_;clear hK K;go_wp2_with fail
  first|go_ret|go_ret2
  exact⟨rfl,HW.out⟩
end
section
open Go.RowKit DT SS TR LT Go
abbrev TTD:TypeId:=99
def Za4(t:Yn)(b r p:ByteArray)(v:Value):Prop:=∃ A n c B m e,v = .agg #[.int .i64 t.id,.int .i64 (t.start:Int),.int .i64 (t.fin:Int),.string t.surf,.string (Yu t.cls),.slice A n c,.string b,.string r,.string p,.slice B m e]
theorem Js{W:World}{g:Nat}{T:TypeId}{cs:Array Value}(j:Nat)(v:Value)(cs':Array Value)(e:cs.setIfInBounds j v=cs')(h:W.heap[g]? = some (.cells cs T (0,0)) ):(W.setCell ⟨g,j,none⟩ v).heap[g]? = some (.cells cs' T (0,0))/\Fr (fun k=>k=g) W (W.setCell ⟨g,j,none⟩ v):=by
 subst e;exact⟨Yo h j v,(Fr.refl _ W).setCell ⟨g,j,none⟩ v (fun _=>rfl)⟩
theorem Zjb{W:World}{g:Nat}{T:TypeId}{a0 a1 a2 a3 a4 a5 a6 a7 a8 a9:Value}(v0 v1 v2 v3 v4 v5 v6 v7 v8 v9:Value)(h:W.heap[g]? = some (.cells #[a0,a1,a2,a3,a4,a5,a6,a7,a8,a9] T (0,0))):((((((((((W.setCell ⟨g,0,none⟩ v0).setCell ⟨g,1,none⟩ v1).setCell ⟨g,2,none⟩ v2).setCell ⟨g,3,none⟩ v3).setCell ⟨g,4,none⟩ v4).setCell ⟨g,5,none⟩ v5).setCell ⟨g,6,none⟩ v6).setCell ⟨g,7,none⟩ v7).setCell ⟨g,8,none⟩ v8).setCell ⟨g,9,none⟩ v9).heap[g]? = some (.cells #[v0,v1,v2,v3,v4,v5,v6,v7,v8,v9] T (0,0))/\Fr (fun j=>j=g) W ((((((((((W.setCell ⟨g,0,none⟩ v0).setCell ⟨g,1,none⟩ v1).setCell ⟨g,2,none⟩ v2).setCell ⟨g,3,none⟩ v3).setCell ⟨g,4,none⟩ v4).setCell ⟨g,5,none⟩ v5).setCell ⟨g,6,none⟩ v6).setCell ⟨g,7,none⟩ v7).setCell ⟨g,8,none⟩ v8).setCell ⟨g,9,none⟩ v9):=by
 have s0:=Js 0 v0 #[v0,a1,a2,a3,a4,a5,a6,a7,a8,a9] rfl h;generalize World.setCell _ ⟨g,0,none⟩ v0=W0 at *;have s1:=Js 1 v1 #[v0,v1,a2,a3,a4,a5,a6,a7,a8,a9] rfl s0.1;generalize World.setCell _ ⟨g,1,none⟩ v1=W1 at *;have s2:=Js 2 v2 #[v0,v1,v2,a3,a4,a5,a6,a7,a8,a9] rfl s1.1;generalize World.setCell _ ⟨g,2,none⟩ v2=W2 at *;have s3:=Js 3 v3 #[v0,v1,v2,v3,a4,a5,a6,a7,a8,a9] rfl s2.1;generalize World.setCell _ ⟨g,3,none⟩ v3=W3 at *;have s4:=Js 4 v4 #[v0,v1,v2,v3,v4,a5,a6,a7,a8,a9] rfl s3.1;generalize World.setCell _ ⟨g,4,none⟩ v4=W4 at *;have s5:=Js 5 v5 #[v0,v1,v2,v3,v4,v5,a6,a7,a8,a9] rfl s4.1;generalize World.setCell _ ⟨g,5,none⟩ v5=W5 at *;have s6:=Js 6 v6 #[v0,v1,v2,v3,v4,v5,v6,a7,a8,a9] rfl s5.1;generalize World.setCell _ ⟨g,6,none⟩ v6=W6 at *;have s7:=Js 7 v7 #[v0,v1,v2,v3,v4,v5,v6,v7,a8,a9] rfl s6.1;generalize World.setCell _ ⟨g,7,none⟩ v7=W7 at *;have s8:=Js 8 v8 #[v0,v1,v2,v3,v4,v5,v6,v7,v8,a9] rfl s7.1;generalize World.setCell _ ⟨g,8,none⟩ v8=W8 at *;have s9:=Js 9 v9 #[v0,v1,v2,v3,v4,v5,v6,v7,v8,v9] rfl s8.1;generalize World.setCell _ ⟨g,9,none⟩ v9=W9 at *;exact⟨s9.1,(((((((((s0.2).trans s1.2 (fun _ _ q=>q)).trans s2.2 (fun _ _ q=>q)).trans s3.2 (fun _ _ q=>q)).trans s4.2 (fun _ _ q=>q)).trans s5.2 (fun _ _ q=>q)).trans s6.2 (fun _ _ q=>q)).trans s7.2 (fun _ _ q=>q)).trans s8.2 (fun _ _ q=>q)).trans s9.2 (fun _ _ q=>q)⟩
def TDS(w:World)(kd:Nat)(pu:Option Addr)(t:Yn)(rb rz g:Nat)(A:Option Addr)(n c:Nat)(B:Option Addr)(m e:Nat)(b r p:ByteArray)(W:World):Prop :=
 W.heap[rb]? = some (Zn kd pu t)/\W.heap[rz]? = some (.cells #[.int .i64 0,.int .i64 0,.int .i64 0,.string ⟨#[]⟩,.string ⟨#[]⟩,.slice none 0 0,.string ⟨#[]⟩,.string ⟨#[]⟩,.string ⟨#[]⟩,.slice none 0 0] TTD (0,0)) /\
 W.heap[g]? = some (.cells #[.int .i64 t.id,.int .i64 (t.start:Int),.int .i64 (t.fin:Int),.string t.surf,.string (Yu t.cls),.slice A n c,.string b,.string r,.string p,.slice B m e] TTD (0,0))/\Ext w W/\w.heap.size<=rb/\rb<g/\rz<g/\rb<rz
theorem TDS.ext{w W W':World}{kd:Nat}{pu:Option Addr}{t:Yn}{rb rz g:Nat}{A:Option Addr}{n c:Nat}{B:Option Addr}{m e:Nat}{b r p:ByteArray}(h:TDS w kd pu t rb rz g A n c B m e b r p W)(f:Ext W W'):TDS w kd pu t rb rz g A n c B m e b r p W' :=
 ⟨f.heap h.1 id,f.heap h.2.1 id,f.heap h.2.2.1 id,Z0 h.2.2.2.1 f,h.2.2.2.2⟩
theorem TDS.put{w W:World}{kd:Nat}{pu:Option Addr}{t:Yn}{rb rz g:Nat}{A:Option Addr}{n c:Nat}{B:Option Addr}{m e:Nat}{b r p:ByteArray}(h:TDS w kd pu t rb rz g A n c B m e b r p W){A':Option Addr}{n' c':Nat}{B':Option Addr}{m' e':Nat}{b' r' p':ByteArray}(j:Nat)(v:Value)
  (hv:(#[.int .i64 t.id,.int .i64 (t.start:Int),.int .i64 (t.fin:Int),.string t.surf,.string (Yu t.cls),.slice A n c,.string b,.string r,.string p,.slice B m e]:Array Value).setIfInBounds j v = #[.int .i64 t.id,.int .i64 (t.start:Int),.int .i64 (t.fin:Int),.string t.surf,.string (Yu t.cls),.slice A' n' c',.string b',.string r',.string p',.slice B' m' e']) :
  TDS w kd pu t rb rz g A' n' c' B' m' e' b' r' p' (W.setCell ⟨g,j,none⟩ v):=by
 obtain⟨h1,h2,h3,h4,h5,h6,h7,h8⟩:=h;have F:Fr (fun k=>k=g) W (W.setCell ⟨g,j,none⟩ v):=(Fr.refl _ W).setCell ⟨g,j,none⟩ v (fun _=>rfl);refine⟨F.heap h1 (by omega),F.heap h2 (by omega),?_,h4.trans F (fun k hk q=>by omega),h5,h6,h7,h8⟩;rw[<- hv];exact Yo h3 j v
theorem Zg0{d:Zf}{us:List GRec}(t:Yn)(kd H U:Nat)(pu:Option Addr)(w:World)(ht:Vs d us t)(hD:Wm d us kd pu H U w) :
    Calls Tryz.prog 49 #[.agg (Z9 kd pu t).toArray] w fun e w'=>(∃ v,e = .returned v/\Za4 t ((Yv d us t O3).getD ⟨#[]⟩) ((Yv d us t Oy).getD ⟨#[]⟩) ((Yv d us t Oz).getD ⟨#[]⟩) v)/\Ext w w':=by
  have mixed:Tryz.prog.follows .mixedOrders=true:=by kernel_rfl
  have heq:∀ (W:World) (B:Option Addr) (l k:Nat),(binOp .eql 43 (.slice B l k) (.slice none 0 0)).run Tryz.prog W = .ok (.bool B.isNone) W:=fun W B l k=>Go.run_eql_slice_nil W _ _ B l k Tryz.underlying43
  have HEQ:=Lib.hid heq;clear heq;have hcl:=ht.cls
  have CP:Hid (∀ W,Ext w W->Calls Tryz.prog 39 #[.agg (Z9 kd pu t).toArray] W fun e w'=>(∃ A n c,e = .returned (.slice A n c)/\(A=none->n=0/\c=0))/\Ext W w'):=fun W f=>(Zbk ht (hD.ext f)).mono fun e w' ⟨v,h1,h2,h3⟩=>by
    obtain⟨A,c,rfl⟩:=Xz h2;exact⟨⟨_,_,_,h1,fun e=>by subst e;exact⟨by have:=Nx h2;rw[this];rfl,Ny h2⟩⟩,h3⟩
  have CF:Hid (∀ W,Ext w W->Calls Tryz.prog 38 #[.agg (Z9 kd pu t).toArray] W fun e w'=>(∃ A n c,e = .returned (.slice A n c)/\(A=none->n=0/\c=0))/\Ext W w'):=fun W f=>(Cl ht (hD.ext f)).mono fun e w' ⟨v,h1,h2,h3⟩=>by
    obtain⟨A,c,rfl⟩:=Xz h2;exact⟨⟨_,_,_,h1,fun e=>by subst e;exact⟨by have:=Nx h2;rw[this];rfl,Ny h2⟩⟩,h3⟩
  have C1:Hid (∀ W,Ext w W->Calls Tryz.prog 41 #[.agg (Z9 kd pu t).toArray] W fun e w'=>e = .returned (Ye (Yv d us t O3))/\Ext W w'):=fun W f=>M7 ht (hD.ext f)
  have C2:Hid (∀ W,Ext w W->Calls Tryz.prog 42 #[.agg (Z9 kd pu t).toArray] W fun e w'=>e = .returned (Ye (Yv d us t Oy))/\Ext W w'):=fun W f=>M5 ht (hD.ext f)
  have C3:Hid (∀ W,Ext w W->Calls Tryz.prog 43 #[.agg (Z9 kd pu t).toArray] W fun e w'=>e = .returned (Ye (Yv d us t Oz))/\Ext W w'):=fun W f=>M6 ht (hD.ext f)
  clear ht hD;generalize Yv d us t O3=p1 at *;generalize Yv d us t Oy=p2 at *;generalize Yv d us t Oz=p3 at *;have X0:Ext w (w.alloc (Zn kd pu t)):=(Fr.refl _ _).alloc _;obtain⟨idx,id,cls,pos,st,fi,sf⟩:=t;unfold Za4;simp only at hcl⊢;obtain⟨rb,hrb⟩:∃ rb,rb=w.heap.size:=⟨_,rfl⟩;have K1:=alloc_at' w (Zn kd pu ⟨idx,id,cls,pos,st,fi,sf⟩) hrb;go_enter Tryz.func49,Tryz.ntmps49
  go_upto_region 1 with fail
  rw[<- hrb];obtain⟨rz,hrz⟩:∃ rz,rz=rb+1:=⟨_,rfl⟩;rw[<- hrz];have K2:=alloc_at' (w.alloc (Zn kd pu ⟨idx,id,cls,pos,st,fi,sf⟩)) (.cells #[.int .i64 0,.int .i64 0,.int .i64 0,.string ⟨#[]⟩,.string ⟨#[]⟩,.slice none 0 0,.string ⟨#[]⟩,.string ⟨#[]⟩,.string ⟨#[]⟩,.slice none 0 0] TTD) (show rz=_ by rw[hrz,Za,hrb]);have K1:=((Fr.refl _ (w.alloc (Zn kd pu ⟨idx,id,cls,pos,st,fi,sf⟩))).alloc (.cells #[.int .i64 0,.int .i64 0,.int .i64 0,.string ⟨#[]⟩,.string ⟨#[]⟩,.slice none 0 0,.string ⟨#[]⟩,.string ⟨#[]⟩,.string ⟨#[]⟩,.slice none 0 0] TTD):Ext _ _).heap K1 (fun e=>e);have X1:Ext w ((w.alloc (Zn kd pu ⟨idx,id,cls,pos,st,fi,sf⟩)).alloc (.cells #[.int .i64 0,.int .i64 0,.int .i64 0,.string ⟨#[]⟩,.string ⟨#[]⟩,.slice none 0 0,.string ⟨#[]⟩,.string ⟨#[]⟩,.string ⟨#[]⟩,.slice none 0 0] TTD)):=X0.alloc _;have HRW:=Lib.hid (show w.heap.size<=rb/\rz=rb+1 by omega);have HX:=Lib.hid X1;clear hrb hrz X0 X1;generalize World.alloc (World.alloc _ _) _=w1 at *;have HK:=Lib.hid (And.intro K1 K2);have HSS:Hid (∀ W,Ext w1 W->W.cell? ⟨rb,0,none⟩=some (.int .i64 (idx:Int))/\W.cell? ⟨rb,1,none⟩=some (.int .i64 id)/\W.cell? ⟨rb,2,none⟩=some (.int .i64 (cls:Int))/\W.cell? ⟨rb,3,none⟩=some (.int .i64 (pos:Int))/\W.cell? ⟨rb,4,none⟩=some (.int .i64 (st:Int))/\W.cell? ⟨rb,5,none⟩=some (.int .i64 (fi:Int))/\W.cell? ⟨rb,6,none⟩=some (.string sf)/\W.cell? ⟨rb,7,none⟩=some (.pointer (some ⟨kd,0,none⟩))/\W.cell? ⟨rb,8,none⟩=some (.pointer pu)/\rb<W.heap.size):=fun W f=>Nk (f.heap K1 (fun e=>e))
  clear K1 K2;refine Yd 17 18 #[false,false,false,false,false,false,false,false,false,false,false,false,false,false,false,false,false,false] (fun W=>Ext w1 W/\W.cell? ⟨rb,0,none⟩=some (.int .i64 (idx:Int))/\W.cell? ⟨rb,1,none⟩=some (.int .i64 id)/\W.cell? ⟨rb,2,none⟩=some (.int .i64 (cls:Int))/\W.cell? ⟨rb,3,none⟩=some (.int .i64 (pos:Int))/\W.cell? ⟨rb,4,none⟩=some (.int .i64 (st:Int))/\W.cell? ⟨rb,5,none⟩=some (.int .i64 (fi:Int))/\W.cell? ⟨rb,6,none⟩=some (.string sf)/\W.cell? ⟨rb,7,none⟩=some (.pointer (some ⟨kd,0,none⟩))/\W.cell? ⟨rb,8,none⟩=some (.pointer pu)/\rb<W.heap.size) mixed rfl rfl (⟨(Fr.refl _ w1).drew,HSS.out w1.drew ((Fr.refl _ w1).drew)⟩) (fun hS=>?_);refine WL.go [(0,4),(1,5),(2,6),(3,7),(4,8),(5,9),(6,10),(7,11),(8,12),(9,13),(11,15),(13,17)] ?_;iterate 12 (refine WL.tk (v:=?_) rfl rfl (by kernel_rfl) (fun _ _ _ h=>h) (Or.inl ⟨by rfl,?_⟩) (by assumption) ?_;rotate_left;(focus (intro w hSw;(try obtain⟨sf',b0,b1,b2,b3,b4,b5,b6,b7,b8,lb⟩:=hSw);go_simp;(try with_reducible rfl)));simp only[Act.put,List.setIfInBounds_toArray,List.set_cons_zero,List.set_cons_succ])
  refine WZ.flowT 1 17 [(10,14,[]),(12,16,[]),(14,18,[]),(15,19,[(10,14),(12,16),(14,18)]),(16,3,[])]
    [(10,fun v _=>v = .string (Yu cls)),(12,fun v _=>∃ A n c,v = .slice A n c/\(A=none->n=0/\c=0)),(14,fun v _=>∃ A n c,v = .slice A n c/\(A=none->n=0/\c=0)),
     (15,fun v _=>∃ A n c B m e,v = .agg #[.int .i64 id,.int .i64 (st:Int),.int .i64 (fi:Int),.string sf,.string (Yu cls),.slice A n c,.string ⟨#[]⟩,.string ⟨#[]⟩,.string ⟨#[]⟩,.slice B m e]/\(A=none->n=0/\c=0)/\(B=none->m=0/\e=0)),
     (16,fun v W=>∃ g,v = .pointer (some ⟨g,0,none⟩)/\w1.heap.size<=g/\W.heap[g]? = some (.cells #[.int .i64 0,.int .i64 0,.int .i64 0,.string ⟨#[]⟩,.string ⟨#[]⟩,.slice none 0 0,.string ⟨#[]⟩,.string ⟨#[]⟩,.string ⟨#[]⟩,.slice none 0 0] TTD (0,0)))]
    (by kernel_rfl) rfl (fun W W' h f=>⟨Z0 h.1 f,HSS.out W' (Z0 h.1 f)⟩) ?_ (by assumption) ?_ (fun vals W hx hSw hv=>?_)
  · simp only[List.forall_mem_cons]
    exact⟨fun v W W' f h=>h,fun v W W' f h=>h,fun v W W' f h=>h,fun v W W' f h=>h,fun v W W' f ⟨g,h1,h2,h3⟩=>⟨g,h1,h2,f.heap h3 (fun e=>e)⟩,fun _ h=>nomatch h⟩
  · simp only[List.forall_mem_cons]
    refine⟨⟨_,rfl,fun vals W hSw hD Q' K hK=>?_⟩,⟨_,rfl,fun vals W hSw hD Q' K hK=>?_⟩,⟨_,rfl,fun vals W hSw hD Q' K hK=>?_⟩,⟨_,rfl,fun vals W hSw hD Q' K hK=>?_⟩,⟨_,rfl,fun vals W hSw hD Q' K hK=>?_⟩,fun _ h=>nomatch h⟩
    · have HSW:=Lib.hid hSw.1
      clear hD hSw;simp only[Z8];go_simp;go_wp2_with (go_at_call 47;refine (Fd cls hcl W).mono ?_;rintro e w5 ⟨rfl,hx⟩)
      exact hK.out _ _ w5 rfl hx rfl
    · have HSW:=Lib.hid hSw.1
      clear hD hSw;simp only[Z8];go_simp;go_wp2_with (go_at_call 39;refine (CP.out W (Z0 HX.out HSW.out)).mono ?_;rintro e w5 ⟨⟨A,n,c,rfl,hnc⟩,hx⟩)
      exact hK.out _ _ w5 rfl hx ⟨_,_,_,rfl,hnc⟩
    · have HSW:=Lib.hid hSw.1
      clear hD hSw;simp only[Z8];go_simp;go_wp2_with (go_at_call 38;refine (CF.out W (Z0 HX.out HSW.out)).mono ?_;rintro e w5 ⟨⟨A,n,c,rfl,hnc⟩,hx⟩)
      exact hK.out _ _ w5 rfl hx ⟨_,_,_,rfl,hnc⟩
    · have h10:vals 10 = .string (Yu cls):=hD (10,14) (by simp)
      obtain⟨A,n,c,h12,q12⟩:∃ A n c,vals 12 = .slice A n c/\(A=none->n=0/\c=0):=hD (12,16) (by simp);obtain⟨B,m,e,h14,q14⟩:∃ A n c,vals 14 = .slice A n c/\(A=none->n=0/\c=0):=hD (14,18) (by simp);clear hD hSw;simp only[Z8,h10,h12,h14]at hK⊢;clear h10 h12 h14;go_simp;exact hK.out _ _ W rfl (Fr.refl _ _) ⟨_,_,_,_,_,_,rfl,q12,q14⟩
    · have HSW:=Lib.hid hSw.1
      clear hD hSw;simp only[Z8];go_simp;exact hK.out _ _ _ rfl ((Fr.refl _ _).alloc _) ⟨_,rfl,HSW.out.size,alloc_at _ _⟩
  · obtain⟨A,n,c,B,m,e,h15,hA0,hB0⟩:∃ A n c B m e,vals 15 = .agg #[.int .i64 id,.int .i64 (st:Int),.int .i64 (fi:Int),.string sf,.string (Yu cls),.slice A n c,.string ⟨#[]⟩,.string ⟨#[]⟩,.string ⟨#[]⟩,.slice B m e]/\(A=none->n=0/\c=0)/\(B=none->m=0/\e=0):=hv (15,19,[(10,14),(12,16),(14,18)]) (by simp)
    obtain⟨g,h16,hg,hgc⟩:∃ g,vals 16 = .pointer (some ⟨g,0,none⟩)/\w1.heap.size<=g/\W.heap[g]? = some (.cells #[.int .i64 0,.int .i64 0,.int .i64 0,.string ⟨#[]⟩,.string ⟨#[]⟩,.slice none 0 0,.string ⟨#[]⟩,.string ⟨#[]⟩,.string ⟨#[]⟩,.slice none 0 0] TTD (0,0)):=hv (16,3,[]) (by simp);simp only[Z8,List.map_cons,List.map_nil,Act.put,List.setIfInBounds_toArray,List.set_cons_zero,List.set_cons_succ,h15,h16];clear hv h15 h16;generalize vals 10=v10 at *;generalize vals 12=v12 at *;generalize vals 14=v14 at *;have HW:=Lib.hid hx;have HG:=Lib.hid (And.intro hg hgc);clear hx;have z0:=cell_of hgc 0 _ rfl;have z1:=cell_of hgc 1 _ rfl;have z2:=cell_of hgc 2 _ rfl;have z3:=cell_of hgc 3 _ rfl;have z4:=cell_of hgc 4 _ rfl;have z5:=cell_of hgc 5 _ rfl;have z6:=cell_of hgc 6 _ rfl;have z7:=cell_of hgc 7 _ rfl;have z8:=cell_of hgc 8 _ rfl;have z9:=cell_of hgc 9 _ rfl;have pf:=Zh hgc;have pf0:=pf 0;have pf1:=pf 1;have pf2:=pf 2;have pf3:=pf 3;have pf4:=pf 4;have pf5:=pf 5;have pf6:=pf 6;have pf7:=pf 7;have pf8:=pf 8;have pf9:=pf 9;have lg:=lt_of_cell z0;clear pf hg hgc;refine WZ.last rfl (by kernel_rfl) (by kernel_rfl) (fun K hK=>?_);go_simp;refine hK.out _ _ ?_;clear hK K;have P10:=Zjb (.int .i64 id) (.int .i64 (st:Int)) (.int .i64 (fi:Int)) (.string sf) (.string (Yu cls)) (.slice A n c) (.string ⟨#[]⟩) (.string ⟨#[]⟩) (.string ⟨#[]⟩) (.slice B m e) HG.out.2;have hrw:=HRW.out;have hk1:=HK.out;have hgl:=HG.out.1;have hrzl:=(Array.getElem?_eq_some_iff.1 hk1.2).1;have hwe:Ext w1 W:=hSw.1;have HT:Hid (TDS w kd pu ⟨idx,id,cls,pos,st,fi,sf⟩ rb rz g A n c B m e ⟨#[]⟩ ⟨#[]⟩ ⟨#[]⟩ _):=⟨P10.2.heap (hwe.heap hk1.1 (fun e=>e)) (by omega),P10.2.heap (hwe.heap hk1.2 (fun e=>e)) (by omega),P10.1,(Z0 HX.out hwe).trans P10.2 (fun k hk q=>by have:=HX.out.size;omega),hrw.1,by omega,by omega,by omega⟩;clear P10 hrw hk1 hgl hrzl hwe z0 z1 z2 z3 z4 z5 z6 z7 z8 z9 pf0 pf1 pf2 pf3 pf4 pf5 pf6 pf7 pf8 pf9 lg HG HW HK HRW HSS hS hSw HX;generalize World.setCell _ ⟨g,9,none⟩ _=W2 at *;go_step;go_step;refine wp_seq_k fun K hK=>?_
    go_cut [] from 20 to 24 (fun wr=>∃ A n c,Hid (TDS w kd pu ⟨idx,id,cls,pos,st,fi,sf⟩ rb rz g A n c B m e ⟨#[]⟩ ⟨#[]⟩ ⟨#[]⟩ wr))
    case first =>
      have z5:=cell_of HT.out.2.2.1 5 _ rfl;have pf5:=Zh HT.out.2.2.1 5;have lg:=lt_of_cell z5;rcases A with _|A
      · obtain⟨rfl,rfl⟩:=hA0 rfl
        have hq:=HEQ.out W2 none 0 0;go_wp2_with fail
        go_meet
        case rel=>exact⟨_,_,_,TDS.ext (TDS.put HT.out 5 _ rfl) ((Fr.refl _ _).alloc _)⟩
      · clear hA0
        have hq:=HEQ.out W2 (some A) n c;go_wp2_with fail
        go_meet
        case rel=>exact⟨_,_,_,HT⟩
    case rest =>
    clear HT hA0;obtain⟨A',n',c',HT⟩:=hcut;generalize wc=W3 at *;go_step;refine wp_seq_k fun K2 hK2=>?_
    go_cut [] from 25 to 29 (fun wr=>∃ B m e,Hid (TDS w kd pu ⟨idx,id,cls,pos,st,fi,sf⟩ rb rz g A' n' c' B m e ⟨#[]⟩ ⟨#[]⟩ ⟨#[]⟩ wr))
    case first =>
      have z5:=cell_of HT.out.2.2.1 9 _ rfl;have pf5:=Zh HT.out.2.2.1 9;have lg:=lt_of_cell z5;rcases B with _|B
      · obtain⟨rfl,rfl⟩:=hB0 rfl
        have hq:=HEQ.out W3 none 0 0;go_wp2_with fail
        go_meet
        case rel=>exact⟨_,_,_,TDS.ext (TDS.put HT.out 9 _ rfl) ((Fr.refl _ _).alloc _)⟩
      · clear hB0
        have hq:=HEQ.out W3 (some B) m e;go_wp2_with fail
        go_meet
        case rel=>exact⟨_,_,_,HT⟩
    case rest =>
    clear HT hB0;obtain⟨B',m',e',HT⟩:=hcut;generalize wc=W4 at *;go_step;obtain⟨b0,b1,b2,b3,b4,b5,b6,b7,b8,lb⟩:=Nk HT.out.1;have C:=Lib.hid (C1.out W4 HT.out.2.2.2.1)
    go_upto_region 7 with (first
      | (go_at_call 41;refine C.out.mono ?_;rintro e w5 ⟨rfl,hx⟩;have HH:=Lib.hid (TDS.ext HT.out hx);have z6:=cell_of HH.out.2.2.1 6 _ rfl;have pf6:=Zh HH.out.2.2.1 6;have lg:=lt_of_cell z6)
      | fail)
    have HT2:Hid (TDS w kd pu ⟨idx,id,cls,pos,st,fi,sf⟩ rb rz g A' n' c' B' m' e' (p1.getD ⟨#[]⟩) ⟨#[]⟩ ⟨#[]⟩ _):=TDS.put HH.out 6 _ rfl;clear b0 b1 b2 b3 b4 b5 b6 b7 b8 lb C HT HH z6 pf6 lg hx;generalize World.setCell _ ⟨g,6,none⟩ _=W5 at *;have HT:=HT2;clear HT2;obtain⟨b0,b1,b2,b3,b4,b5,b6,b7,b8,lb⟩:=Nk HT.out.1;have C:=Lib.hid (C2.out W5 HT.out.2.2.2.1)
    go_upto_region 8 with (first
      | (go_at_call 42;refine C.out.mono ?_;rintro e w5 ⟨rfl,hx⟩;have HH:=Lib.hid (TDS.ext HT.out hx);have z6:=cell_of HH.out.2.2.1 7 _ rfl;have pf6:=Zh HH.out.2.2.1 7;have lg:=lt_of_cell z6)
      | fail)
    have HT2:Hid (TDS w kd pu ⟨idx,id,cls,pos,st,fi,sf⟩ rb rz g A' n' c' B' m' e' (p1.getD ⟨#[]⟩) (p2.getD ⟨#[]⟩) ⟨#[]⟩ _):=TDS.put HH.out 7 _ rfl;clear b0 b1 b2 b3 b4 b5 b6 b7 b8 lb C HT HH z6 pf6 lg hx;generalize World.setCell _ ⟨g,7,none⟩ _=W6 at *;have HT:=HT2;clear HT2;obtain⟨b0,b1,b2,b3,b4,b5,b6,b7,b8,lb⟩:=Nk HT.out.1;have C:=Lib.hid (C3.out W6 HT.out.2.2.2.1)
    go_upto_region 9 with (first
      | (go_at_call 43;refine C.out.mono ?_;rintro e w5 ⟨rfl,hx⟩;have HH:=Lib.hid (TDS.ext HT.out hx);have z6:=cell_of HH.out.2.2.1 8 _ rfl;have pf6:=Zh HH.out.2.2.1 8;have lg:=lt_of_cell z6)
      | fail)
    have HT2:Hid (TDS w kd pu ⟨idx,id,cls,pos,st,fi,sf⟩ rb rz g A' n' c' B' m' e' (p1.getD ⟨#[]⟩) (p2.getD ⟨#[]⟩) (p3.getD ⟨#[]⟩) _):=TDS.put HH.out 8 _ rfl;clear b0 b1 b2 b3 b4 b5 b6 b7 b8 lb C HT HH z6 pf6 lg hx;generalize World.setCell _ ⟨g,8,none⟩ _=W7 at *;have HT:=HT2;clear HT2;have y0:=cell_of HT.out.2.2.1 0 _ rfl;have z0:=cell_of HT.out.2.1 0 _ rfl;have pf0:=Zh HT.out.2.1 0;have y1:=cell_of HT.out.2.2.1 1 _ rfl;have z1:=cell_of HT.out.2.1 1 _ rfl;have pf1:=Zh HT.out.2.1 1;have y2:=cell_of HT.out.2.2.1 2 _ rfl;have z2:=cell_of HT.out.2.1 2 _ rfl;have pf2:=Zh HT.out.2.1 2;have y3:=cell_of HT.out.2.2.1 3 _ rfl;have z3:=cell_of HT.out.2.1 3 _ rfl;have pf3:=Zh HT.out.2.1 3;have y4:=cell_of HT.out.2.2.1 4 _ rfl;have z4:=cell_of HT.out.2.1 4 _ rfl;have pf4:=Zh HT.out.2.1 4;have y5:=cell_of HT.out.2.2.1 5 _ rfl;have z5:=cell_of HT.out.2.1 5 _ rfl;have pf5:=Zh HT.out.2.1 5;have y6:=cell_of HT.out.2.2.1 6 _ rfl;have z6:=cell_of HT.out.2.1 6 _ rfl;have pf6:=Zh HT.out.2.1 6;have y7:=cell_of HT.out.2.2.1 7 _ rfl;have z7:=cell_of HT.out.2.1 7 _ rfl;have pf7:=Zh HT.out.2.1 7;have y8:=cell_of HT.out.2.2.1 8 _ rfl;have z8:=cell_of HT.out.2.1 8 _ rfl;have pf8:=Zh HT.out.2.1 8;have y9:=cell_of HT.out.2.2.1 9 _ rfl;have z9:=cell_of HT.out.2.1 9 _ rfl;have pf9:=Zh HT.out.2.1 9;have ly:=lt_of_cell y0;have lz:=lt_of_cell z0;go_wp2_with fail
    have P10:=Zjb (.int .i64 id) (.int .i64 (st:Int)) (.int .i64 (fi:Int)) (.string sf) (.string (Yu cls)) (.slice A' n' c') (.string (p1.getD ⟨#[]⟩)) (.string (p2.getD ⟨#[]⟩)) (.string (p3.getD ⟨#[]⟩)) (.slice B' m' e') HT.out.2.1;have XE:Ext w _:=HT.out.2.2.2.1.trans P10.2 (fun k hk q=>by have:=HT.out.2.2.2.2;omega);have P10:=P10.1;clear y0 z0 pf0 y1 z1 pf1 y2 z2 pf2 y3 z3 pf3 y4 z4 pf4 y5 z5 pf5 y6 z6 pf6 y7 z7 pf7 y8 z8 pf8 y9 z9 pf9;clear ly lz HT;generalize World.setCell _ ⟨rz,9,none⟩ _=W8 at *;have z0:=cell_of P10 0 _ rfl;have z1:=cell_of P10 1 _ rfl;have z2:=cell_of P10 2 _ rfl;have z3:=cell_of P10 3 _ rfl;have z4:=cell_of P10 4 _ rfl;have z5:=cell_of P10 5 _ rfl;have z6:=cell_of P10 6 _ rfl;have z7:=cell_of P10 7 _ rfl;have z8:=cell_of P10 8 _ rfl;have z9:=cell_of P10 9 _ rfl;clear P10;refine bodyPost_ret (by simp[results,Tryz.results49,z0,z1,z2,z3,z4,z5,z6,z7,z8,z9,go_sem];try rfl) rfl ?_;exact⟨⟨_,rfl,_,_,_,_,_,_,rfl⟩,XE⟩
end
section
open Go.RowKit DT SS TR LT Go
abbrev Zee:TypeId:=48
def Zjl:Ty (Option ByteArray) where
 sz:=2
 R:=fun _ _ x cs=>cs=[.string (x.getD ⟨#[]⟩),.bool x.isSome]
 len:=by rintro _ _ x cs rfl;rfl
 one:=by
  rintro _ _ x cs rfl u hu;simp only[List.mem_cons,List.mem_nil_iff,or_false]at hu;rcases hu with rfl|rfl <;> rfl
 mono:=fun _ h=>h
 move:=fun _ _ h=>h
theorem Zir:Qx Tryz.prog Zee 2 24:=Rk (by kernel_rfl)
theorem Zd7(p q:Addr)(w:World) :
  CallsD Tryz.prog 50 #[.pointer (some p),.pointer (some q)] .returning w fun e u' w'=>e = .returned (.tuple #[])/\u' = .returning/\w'=w:=by
 refine callsD_of_wpS Tryz.func50 rfl fun c₀ cs hu=>?_
 apply wpS_seq;apply wpS_region;simp[wpOpsS,go_sem,recoverD,hu,Tryz.ntmps50,Exit.thenS];refine wpS_cond (t:=false) (by simp[Act.eval,Array.replicate]) ?_;simp only[Bool.false_eq_true,if_false];refine wpS_of_wp (wp_skip ?_);cases c₀;simp_all [bodyPostS,results,Tryz.results50]
theorem Zka{w wr:World}{B kd c n:Nat}{pu:Option Addr}{A:Option Addr}{ts:List Yn}{S:Nat->Prop}(h:w.ownsRow B 88 9 (.slice A n c) n (ts.flatMap (Z9 kd pu)))(f:Fr S w wr)(hS:∀ j,B<=j->j<w.heap.size->¬ S j)(hn:n=ts.length)(i:Nat)(hi:i<ts.length) :
  ∃ g,A=some ⟨g,0,none⟩/\g<wr.heap.size/\∀ j (hj:j<9),wr.cell? ⟨g,i*9+j,none⟩=(Z9 kd pu ts[i])[j]?:=by
 subst hn
 have hget:∀ j,j<9->∃ g,A=some ⟨g,0,none⟩/\wr.cell? ⟨g,i*9+j,none⟩=(Z9 kd pu ts[i])[j]? /\ g<wr.heap.size:=fun j hj=>by
  obtain⟨g,c',e,ec,hg⟩:=Vn h (i*9+j) (by omega);simp only[Value.slice.injEq]at e;obtain⟨rfl,_,rfl⟩:=e;rw[flat_get (Z9 kd pu) 9 (fun _=>rfl) ts i j hi hj]at ec;have h9:j<(Z9 kd pu ts[i]).length:=hj;rw[List.getElem?_eq_getElem h9]at ec⊢;have hgl:=lt_of_cell ec;exact⟨g,rfl,f.cell ec (hS g (Yx (g:=g) h hg) hgl),Nat.lt_of_lt_of_le hgl f.size⟩
 obtain⟨g,rfl,_,hg⟩:=hget 0 (by omega);refine⟨g,rfl,hg,fun j hj=>?_⟩;obtain⟨g',eg,e,_⟩:=hget j hj;cases eg;exact e
theorem K5(d:Zf)(cs:List Value)(O:Nat->Prop)(uks:Option (List ByteArray))(X:XU)(us:List GRec)(s:ByteArray)(hs:Rd s)(hsz:s.size<=300)(mode k:Int)(hk:k<=9223372036854775807)(w:World)(h:tDict.R w O d cs)(hT:U8 w)(hd:DOk d)(hr:Zk d=true)(hTO:Pb d cs uks X w)
    (hTD:∀ W v kd H U ku w',Bj d uks X false mode s W v kd H U ku w'->Wm d us kd (Gn uks ku) H U w') (hIn:∀ t∈Y3 (Zu d uks) false (Uc mode) s,Vs d us t) (hlen:(Y3 (Zu d uks) false (Uc mode) s).length<=1000000000) :
    Calls Tryz.prog 21 #[.agg cs.toArray,.string s,.int .i64 mode,.int .i64 k] w fun e w'=>∃ v,e = .returned (.tuple #[v,.int .i64 0])/\RowK Zjl Zee v ((Y3 (Zu d uks) false (Uc mode) s).map fun t=>Xt (Z5 d us t) k) w.heap.size w'/\Ext w w':=by
  have mixed:Tryz.prog.follows .mixedOrders=true:=by kernel_rfl
  have H:=Lib.hid (And.intro h (And.intro hT hTO));have HD:=Lib.hid (And.intro hd hr);have HQ:=Lib.hid (And.intro hTD hIn);obtain⟨A1,c1,A2,c2,A3,c3,A4,c4,A5,c5,A6,c6,A7,c7,A8,c8,rfl,_⟩:=Yh h;clear h hT hTO hd hr hTD hIn;obtain⟨TL,hTL⟩:∃ TL,TL=Y3 (Zu d uks) false (Uc mode) s:=⟨_,rfl⟩;rw[<- hTL]at hlen⊢;have HTL:=Lib.hid hTL;clear hTL;have hmf:∀ (fn:Fn) (first cap:Array Value) (w:World),(Instr.makeFunc fn first cap).run Tryz.prog w = .ok (.func fn first cap) w:=fun _ _ _ _=>rfl
  go_enter_defers Tryz.func21,Tryz.ntmps21
  go_upto_region 5 with (first
    | (go_at_call 35;refine (R5 d _ O uks X s hs hsz mode false _ (tDict.ext H.out.1 ((((Fr.refl _ w).alloc _).alloc _).alloc _)) (H.out.2.1.ext ((((Fr.refl _ w).alloc _).alloc _).alloc _)) HD.out.1 HD.out.2 (fun om W f=>H.out.2.2 om W (((((Fr.refl _ w).alloc _).alloc _).alloc _).then f))).mono ?_;rintro e w1 ⟨v,kd,HH,U,ku,rfl,hx⟩;obtain⟨b8,f8,b9,f9,l8,l9,hx9⟩:=Nv hx.2.2.2.2.2;have HX:=Lib.hid (And.intro hx9 hx);clear hx hx9)
    | fail)
  obtain⟨bo,hbo⟩:∃ bo,bo=w.heap.size+1:=⟨_,rfl⟩;obtain⟨be,hbe⟩:∃ be,be=bo+1:=⟨_,rfl⟩;rw[<- hbo]at b8 f8 b9 f9 l8 l9⊢;rw[<- hbe]at b9 f9 l9⊢;have hrow:=HX.out.2.1;obtain⟨Av,cv,hv⟩:=Zl hrow;rw[<- HTL.out]at hrow hv;subst hv;have F1:Fr (fun j=>j=be) w1 (w1.setCell ⟨be,0,none⟩ (.int .i64 0)):=(Fr.refl _ w1).setCell _ _ (fun _=>rfl);have hB3:w.heap.size+3<=(((w.alloc (.cells #[.slice A1 d.words.length c1,.int .i64 d.rows,.int .i64 d.cols,.slice A2 d.costs.length c2,.slice A3 d.classes.length c3,.slice A4 d.chars.length c4,.slice A5 d.unknown.length c5,.slice A6 d.meta0.length c6,.slice A7 d.unkMeta.length c7,.bool d.hasUser,.slice A8 d.user.length c8] 30)).alloc (.cells #[.slice none 0 0] 62)).alloc (.cells #[.int .i64 0] 3)).heap.size:=by rw[Za,Za,Za];omega
  have hHH:w.heap.size+3<=HH:=Nat.le_trans hB3 HX.out.2.2.2.2.2.1;have T1:=(HQ.out.1 _ _ _ _ _ _ _ HX.out.2).keep F1 (fun b hb _ e=>by omega);have R1:=Zy hrow F1 (fun j e=>by have:=Yx (g:=j) hrow e;omega);have R1:=Vi R1 hB3;have c8:=F1.cell b8 (show ¬ bo=be by omega);have f8:=(F1.frozen b8 (show ¬ bo=be by omega)).trans f8;have c9:(w1.setCell ⟨be,0,none⟩ (.int .i64 0)).cell? ⟨be,0,none⟩=some (.int .i64 0):=World.cell?_setCell_same' _ _ _ (by rw[b9];rfl);have f9:(w1.setCell ⟨be,0,none⟩ (.int .i64 0)).frozen? ⟨be,0,none⟩=false:=by rw[World.frozen?_setCell];exact f9
  have X1:Ext w (w1.setCell ⟨be,0,none⟩ (.int .i64 0)):=HX.out.1.trans F1 (fun j hj e=>by omega);have HW:=Lib.hid (And.intro X1 (And.intro T1 (And.intro hHH R1)));have HBB:=Lib.hid (And.intro hbo hbe);clear X1 T1 R1 hHH hB3 F1 hrow HX b8 b9 l8 l9 hbo hbe;generalize w1.setCell _ _=w2 at *;obtain⟨n,hne⟩:∃ n,n=TL.length:=⟨_,rfl⟩;have HN:=Lib.hid hne;rw[<- hne]at hlen⊢;clear hne;go_wp2_with fail
  have hb2:bo<w2.heap.size:=lt_of_cell c8
  go_loopg [26] n (fun g1 v26 wr=>∃ (i:Nat) (u:Value),v26 = .int .i64 (i:Int)/\i<=n/\n<=i+g1/\wr.cell? ⟨bo,0,none⟩=some u/\wr.frozen? ⟨bo,0,none⟩=false/\Hid (RowK Zjl Zee u ((TL.take i).map fun t=>Xt (Z5 d us t) k) w2.heap.size wr/\Fr (fun j=>j=bo) w2 wr))
  case atStart=>exact⟨0,_,rfl,by omega,by omega,c8,f8,RowK.nil _,Fr.refl _ _⟩
  case round =>
    obtain⟨i,u,rfl,hi,hg,co,fo,HR⟩:=hrel;obtain⟨Au,cu,hu⟩:=HR.out.1.own;rw[List.length_map,List.length_take,Nat.min_eq_left (by have:=HN.out;omega)]at hu;have HU:=Lib.hid hu;clear hu;by_cases hlt:i<n
    · have hlz:(i:Int)<(n:Int):=by omega
      have hz0:(0:Int)<=(i:Int):=by omega
      have hil:i<TL.length:=by rw[<- HN.out];exact hlt
      have hrow:=HW.out.2.2.2;rw[<- HN.out]at hrow;obtain⟨g,rfl,lg,hg'⟩:=Zka hrow HR.out.2 (fun j hj _ e=>by have:=HBB.out;omega) HN.out i hil;have HT:Hid (TL.take (i+1)=TL.take i++[TL[i]]):=List.take_succ_eq_append_getElem hil;have HTI:=Lib.hid (HQ.out.2 TL[i] (by rw[<- HTL.out];exact List.getElem_mem hil));have HTD:=Lib.hid (HW.out.2.1.keep HR.out.2 (fun b hb _ e=>by have:=HBB.out;have:=HW.out.2.2.1;omega));generalize TL[i]=t at *;have q0:wr.cell? ⟨g,i*9,none⟩=some (.int .i64 t.index):=hg' 0 (by omega);have q1:wr.cell? ⟨g,i*9+1,none⟩=some (.int .i64 t.id):=hg' 1 (by omega);have q2:wr.cell? ⟨g,i*9+2,none⟩=some (.int .i64 t.cls):=hg' 2 (by omega);have q3:wr.cell? ⟨g,i*9+3,none⟩=some (.int .i64 t.pos):=hg' 3 (by omega);have q4:wr.cell? ⟨g,i*9+4,none⟩=some (.int .i64 t.start):=hg' 4 (by omega);have q5:wr.cell? ⟨g,i*9+5,none⟩=some (.int .i64 t.fin):=hg' 5 (by omega);have q6:wr.cell? ⟨g,i*9+6,none⟩=some (.string t.surf):=hg' 6 (by omega);have q7:wr.cell? ⟨g,i*9+7,none⟩=some (.pointer (some ⟨kd,0,none⟩)):=hg' 7 (by omega);have q8:wr.cell? ⟨g,i*9+8,none⟩=some (.pointer (Gn uks ku)):=hg' 8 (by omega);generalize Gn uks ku=pu at *;clear hg' hil hrow;go_upto_region 8 with fail
      obtain⟨tb,htb⟩:∃ tb,tb=wr.heap.size:=⟨_,rfl⟩;rw[<- htb];have K1:=alloc_at' wr (Zn kd pu t) htb;have X1:Ext wr (wr.alloc (Zn kd pu t)):=(Fr.refl _ wr).alloc _;have co1:=X1.cell co id;have fo1:=(X1.frozen co id).trans fo;have HL:Hid (∀ j,u.ownBlock=some j->w2.heap.size<=j/\j<tb):=fun j e=>by rw[htb];exact HR.out.1.low j e
      have hUw:=HW.out.2.1.dict.lt;have HG:=Lib.hid (And.intro (HR.out.1.ext X1) (HR.out.2.trans X1 (fun _ _ e=>e.elim)));have hws:w2.heap.size<=tb:=by rw[htb];exact HR.out.2.size
      have hws3:tb<(wr.alloc (Zn kd pu t)).heap.size:=by rw[Za];omega
      have HSS:Hid (∀ W,Fr (fun j=>u.ownBlock=some j) (wr.alloc (Zn kd pu t)) W->W.cell? ⟨bo,0,none⟩=some u/\W.frozen? ⟨bo,0,none⟩=false/\W.cell? ⟨tb,0,none⟩=some (Value.int .i64 (t.index:Int))/\W.cell? ⟨tb,1,none⟩=some (Value.int .i64 t.id)/\W.cell? ⟨tb,2,none⟩=some (Value.int .i64 (t.cls:Int))/\W.cell? ⟨tb,3,none⟩=some (Value.int .i64 (t.pos:Int))/\W.cell? ⟨tb,4,none⟩=some (Value.int .i64 (t.start:Int))/\W.cell? ⟨tb,5,none⟩=some (Value.int .i64 (t.fin:Int))/\W.cell? ⟨tb,6,none⟩=some (Value.string t.surf)/\W.cell? ⟨tb,7,none⟩=some (Value.pointer (some ⟨kd,0,none⟩))/\W.cell? ⟨tb,8,none⟩=some (Value.pointer pu)/\tb<W.heap.size):=fun W f=>by
        have hno:¬ u.ownBlock=some bo:=fun e=>by have:=HL.out _ e;omega
        exact⟨f.cell co1 hno,(f.frozen co1 hno).trans fo1,Nk (f.heap K1 (fun e=>by have:=HL.out _ e;omega))⟩
      have CF:Hid (∀ W,Fr (fun j=>u.ownBlock=some j) (wr.alloc (Zn kd pu t)) W->Calls Tryz.prog 51 #[.agg (Z9 kd pu t).toArray,.int .i64 k] W fun e w'=>e = .returned (Ye (Xt (Z5 d us t) k))/\Ext W w'):=fun W f=>G8 HTI.out k hk ((HTD.out.ext X1).keep f (fun b hb hU e=>by have:=HL.out b e;omega))
      obtain⟨fx,hfx⟩:∃ fx,fx=Xt (Z5 d us t) k:=⟨_,rfl⟩;rw[<- hfx]at CF;have HFX:=Lib.hid hfx;clear hfx;clear K1 X1 co1 fo1 HTD HTI q0 q1 q2 q3 q4 q5 q6 q7 q8 lg co fo hUw HR;have HTB:=Lib.hid htb;clear htb;generalize wr.alloc _=w3 at *;refine Ts ?_;refine Yd 9 10 #[false,false,false,false,false,false,false,false,false,false] (fun W=>Fr (fun j=>u.ownBlock=some j) w3 W/\W.cell? ⟨bo,0,none⟩=some u/\W.frozen? ⟨bo,0,none⟩=false/\W.cell? ⟨tb,0,none⟩=some (Value.int .i64 (t.index:Int))/\W.cell? ⟨tb,1,none⟩=some (Value.int .i64 t.id)/\W.cell? ⟨tb,2,none⟩=some (Value.int .i64 (t.cls:Int))/\W.cell? ⟨tb,3,none⟩=some (Value.int .i64 (t.pos:Int))/\W.cell? ⟨tb,4,none⟩=some (Value.int .i64 (t.start:Int))/\W.cell? ⟨tb,5,none⟩=some (Value.int .i64 (t.fin:Int))/\W.cell? ⟨tb,6,none⟩=some (Value.string t.surf)/\W.cell? ⟨tb,7,none⟩=some (Value.pointer (some ⟨kd,0,none⟩))/\W.cell? ⟨tb,8,none⟩=some (Value.pointer pu)/\tb<W.heap.size) mixed rfl rfl (⟨(Fr.refl _ w3).drew,HSS.out w3.drew ((Fr.refl _ w3).drew)⟩) (fun hS=>?_);refine WL.go [(0,30),(1,31),(2,32)] ?_;iterate 3 (refine WL.tk (v:=?_) rfl rfl (by kernel_rfl) (fun _ _ _ h=>nomatch h.1) (Or.inl ⟨by rfl,?_⟩) (by assumption) ?_;rotate_left;(focus (intro w hSw;(try obtain⟨sf,so,sfz,b0,b1,b2,b3,b4,b5,b6,b7,b8,lb⟩:=hSw);go_simp;(try with_reducible rfl)));simp only[Act.put,List.setIfInBounds_toArray,List.set_cons_zero,List.set_cons_succ])
      refine WZ.flowT 2 8 [(3,33,[]),(4,34,[(3,33)]),(5,35,[(3,33)]),(6,36,[(4,34),(5,35)]),(7,37,[(6,36)])]
        [(3,fun v _=>v=Ye fx),(4,fun v _=>v = .string (fx.getD ⟨#[]⟩)),(5,fun v _=>v = .bool fx.isSome),(6,fun v _=>v = .agg #[.string (fx.getD ⟨#[]⟩),.bool fx.isSome]),
         (7,fun v W=>∃ nb,v = .slice (some ⟨nb,0,none⟩) 1 1/\W.heap[nb]? = some (.cells #[.string (fx.getD ⟨#[]⟩),.bool fx.isSome] Zee (0,0)))]
        (by kernel_rfl) rfl (fun W W' h f=>⟨h.1.ext f,HSS.out W' (h.1.ext f)⟩) ?_ (by assumption) ?_ (fun vals W hx hSw hv=>?_)
      · simp only[List.forall_mem_cons]
        exact⟨fun v W W' f h=>h,fun v W W' f h=>h,fun v W W' f h=>h,fun v W W' f h=>h,fun v W W' f ⟨nb,h1,h2⟩=>⟨nb,h1,f.heap h2 (fun e=>e)⟩,fun _ h=>nomatch h⟩
      · simp only[List.forall_mem_cons]
        refine⟨⟨_,rfl,fun vals W hSw hD Q' K hK=>?_⟩,⟨_,rfl,fun vals W hSw hD Q' K hK=>?_⟩,⟨_,rfl,fun vals W hSw hD Q' K hK=>?_⟩,⟨_,rfl,fun vals W hSw hD Q' K hK=>?_⟩,⟨_,rfl,fun vals W hSw hD Q' K hK=>?_⟩,fun _ h=>nomatch h⟩
        · have C:=Lib.hid (CF.out W hSw.1)
          clear hD hSw;simp only[Z8];go_simp;go_wp2_with (go_at_call 51;refine C.out.mono ?_;rintro e w5 ⟨rfl,hx⟩)
          exact hK.out _ _ w5 rfl hx rfl
        · have h3:vals 3=Ye fx:=hD (3,33) (by simp)
          clear hD hSw;simp only[Z8,h3]at hK⊢;clear h3;go_simp;exact hK.out _ _ W rfl (Fr.refl _ _) rfl
        · have h3:vals 3=Ye fx:=hD (3,33) (by simp)
          clear hD hSw;simp only[Z8,h3]at hK⊢;clear h3;go_simp;exact hK.out _ _ W rfl (Fr.refl _ _) rfl
        · have h4:vals 4 = .string (fx.getD ⟨#[]⟩):=hD (4,34) (by simp)
          have h5:vals 5 = .bool fx.isSome:=hD (5,35) (by simp);clear hD hSw;simp only[Z8,h4,h5]at hK⊢;clear h4 h5;go_simp;go_wp2_with (go_at_call 40;refine (Ux _ _ W).mono ?_;rintro e w5 ⟨rfl,hx⟩)
          exact hK.out _ _ w5 rfl hx rfl
        · have h6:vals 6 = .agg #[.string (fx.getD ⟨#[]⟩),.bool fx.isSome]:=hD (6,36) (by simp)
          clear hD hSw;simp only[Z8,h6]at hK⊢;clear h6;go_simp;exact hK.out _ _ _ rfl ((Fr.refl _ _).alloc _) ⟨_,rfl,alloc_at _ _⟩
      · obtain⟨nb,h7,h7c⟩:∃ nb,vals 7 = .slice (some ⟨nb,0,none⟩) 1 1/\W.heap[nb]? = some (.cells #[.string (fx.getD ⟨#[]⟩),.bool fx.isSome] Zee (0,0)):=hv (7,37,[(6,36)]) (by simp)
        simp only[Z8,List.map_cons,List.map_nil,Act.put,List.setIfInBounds_toArray,List.set_cons_zero,List.set_cons_succ,h7];clear hv h7;generalize vals 3=v3 at *;generalize vals 4=v4 at *;generalize vals 5=v5 at *;generalize vals 6=v6 at *;have RKW:RowK Zjl Zee u ((TL.take i).map fun t=>Xt (Z5 d us t) k) w2.heap.size W:=(HG.out.1.ext ((Fr.refl _ w3).drew)).ext hx;have hW3:=hSw.1.size;refine WZ.one (i:=8) rfl (by kernel_rfl) (by decide) (fun K hK=>?_);refine RowK.op (by rfl) _ _ 62 (by rfl) fx [.string (fx.getD ⟨#[]⟩),.bool fx.isSome] 24 ⟨nb,0,none⟩ Tryz.underlying62 Zir (by decide) (by omega) (by rfl) (by rfl) RKW (by rw[List.length_map,List.length_take];omega) (by omega) (Mc h7c) rfl ?_;intro v' w6 hR6 hf6 _;refine hK.out _ _ (⟨hSw.1.then hf6,HSS.out _ (hSw.1.then hf6)⟩) (fun hSr8_8=>?_);clear hK K;try simp only[Act.put,List.setIfInBounds_toArray,List.set_cons_zero,List.set_cons_succ]
        refine WZ.last rfl (by kernel_rfl) (by kernel_rfl) (fun K hK=>?_);obtain⟨sf,so,sfz,_⟩:=hSr8_8;obtain⟨A',c',hv'⟩:=hR6.own;rw[List.length_append,List.length_map,List.length_take,Nat.min_eq_left (by have:=HN.out;omega)]at hv';simp only[List.length_singleton]at hv';subst hv';have lo:=lt_of_cell so;go_simp;refine hK.out _ _ ?_;clear hK K;refine⟨rfl,?_⟩;have F6:Fr (fun j=>j=bo) w6 (w6.setCell ⟨bo,0,none⟩ (.slice A' (i+1) c')):=(Fr.refl _ w6).setCell _ _ (fun _=>rfl);have co7:(w6.setCell ⟨bo,0,none⟩ (.slice A' (i+1) c')).cell? ⟨bo,0,none⟩=some (.slice A' (i+1) c'):=World.cell?_setCell_same' _ _ _ (by rw[so];rfl);have fo7:(w6.setCell ⟨bo,0,none⟩ (.slice A' (i+1) c')).frozen? ⟨bo,0,none⟩=false:=by rw[World.frozen?_setCell];exact sfz
        have H7:=Lib.hid (And.intro (hR6.keep F6 (fun j hj _ e=>by omega)) ((HG.out.2.trans sf (fun j hj e=>by have:=HL.out j e;omega)).then F6));clear F6 so sfz sf hR6 hf6 RKW;generalize w6.setCell _ _=w7 at *;go_wp2_with fail
        go_roundg (n-(i+1))
        case measure=>omega
        case rel=>exact⟨i+1,_,by go_num,by omega,by omega,co7,fo7,by rw[HT.out,List.map_append,List.map_cons,List.map_nil,<- HFX.out];exact H7.out.1,H7.out.2⟩
    · obtain rfl:i=n:=by omega
      have hu:=HU.out;subst hu;have n1:¬ be=bo:=by have:=HBB.out;omega
      have n2:¬ bo=be:=by have:=HBB.out;omega
      have be9:=HR.out.2.cell c9 n1;have fe9:=(HR.out.2.frozen c9 n1).trans f9;have lo:=lt_of_cell co;have le:=lt_of_cell be9;go_wp2_with fail
      have F9:Fr (fun j=>j=bo\/j=be) wr ((wr.setCell ⟨bo,0,none⟩ (.slice Au i cu)).setCell ⟨be,0,none⟩ (.int .i64 0)):=((Fr.refl (fun j=>j=bo\/j=be) wr).setCell ⟨bo,0,none⟩ _ (fun _=>.inl rfl)).setCell ⟨be,0,none⟩ _ (fun _=>.inr rfl);have X9:Ext w ((wr.setCell ⟨bo,0,none⟩ (.slice Au i cu)).setCell ⟨be,0,none⟩ (.int .i64 0)):=(HW.out.1.trans HR.out.2 (fun j hj e=>by have:=HBB.out;omega)).trans F9 (fun j hj e=>by have:=HBB.out;omega);have R9:=(HR.out.1.keep F9 (fun j hj _ e=>by have l:be<w2.heap.size:=lt_of_cell c9;omega)).base HW.out.1.size;have y9:((wr.setCell ⟨bo,0,none⟩ (.slice Au i cu)).setCell ⟨be,0,none⟩ (.int .i64 0)).cell? ⟨be,0,none⟩=some (.int .i64 0):=World.cell?_setCell_same' _ _ _ (by rw[((Fr.refl (fun j=>j=bo) wr).setCell ⟨bo,0,none⟩ _ (fun _=>rfl)).cell be9 n1];rfl)
      have y8:((wr.setCell ⟨bo,0,none⟩ (.slice Au i cu)).setCell ⟨be,0,none⟩ (.int .i64 0)).cell? ⟨bo,0,none⟩=some (.slice Au i cu) :=
        ((Fr.refl (fun j=>j=be) _).setCell ⟨be,0,none⟩ _ (fun _=>rfl)).cell (World.cell?_setCell_same' _ _ _ (by rw[co];rfl)) n2
      have hTN:TL.take i=TL:=by rw[HN.out,List.take_length]
      rw[hTN]at R9;have H9:=Lib.hid (And.intro R9 X9);clear F9 X9 R9 be9 fe9 lo le co fo HR hTN;generalize World.setCell _ _ _=w9 at *;refine leaves_cons (f:=50) (args:=#[.pointer (some ⟨bo,0,none⟩),.pointer (some ⟨be,0,none⟩)]) (by simp) (by simp[go_sem]) ?_;refine (Zd7 _ _ _).mono ?_;rintro e u' w8 ⟨rfl,rfl,rfl⟩;simp[Leaves,settle,results,Tryz.results21,go_sem,y8,y9];exact⟨H9.out.1,H9.out.2⟩
end
section
open Go Go.RowKit DT SS TR LT
section
variable{gd:Nat}{T:TypeId}{tg:List Value}{W W' W'':World}
def ToW(gd:Nat)(T:TypeId)(tg:List Value)(W W':World):Prop:=Fr (fun k=>k=gd) W W'/\∀ cs:List Value,W.heap[gd]? = some (.cells cs.toArray T (0,0))->cs.length=tg.length->∃ cs':List Value,W'.heap[gd]? = some (.cells cs'.toArray T (0,0))/\cs'.length=tg.length/\∀ j:Nat,cs[j]? = tg[j]? -> cs'[j]? = tg[j]?
theorem ToW.refl(W:World):ToW gd T tg W W:=⟨Fr.refl _ W,fun cs h hl=>⟨cs,h,hl,fun _ e=>e⟩⟩
theorem ToW.trans(h:ToW gd T tg W W')(k:ToW gd T tg W' W''):ToW gd T tg W W'':=by
 refine⟨h.1.then k.1,fun cs hc hl=>?_⟩;obtain⟨cs',h1,h2,h3⟩:=h.2 cs hc hl;obtain⟨cs2,k1,k2,k3⟩:=k.2 cs' h1 h2;exact⟨cs2,k1,k2,fun j e=>k3 j (h3 j e)⟩
theorem ToW.set(j:Nat)(v:Value)(hj:tg[j]? = some v):ToW gd T tg W (W.setCell ⟨gd,j,none⟩ v):=by
 refine⟨(Fr.refl (fun k=>k=gd) W).setCell ⟨gd,j,none⟩ v (fun _=>rfl),fun cs hc hl=>⟨cs.set j v,?_,by rw[List.length_set,hl],fun i e=>?_⟩⟩
 ·have:=Yo hc j v;rwa[List.setIfInBounds_toArray]at this
 ·rw[List.getElem?_set];have hjl:=(List.getElem?_eq_some_iff.1 hj).1
  split
  ·next q =>
   subst q;rw[hj]
   split
   ·rfl
   ·omega
  ·exact e
def Twd(gd:Nat)(T:TypeId)(tg:List Value)(dirty:List Nat)(W:World):Prop:=∃ cs:List Value,W.heap[gd]? = some (.cells cs.toArray T (0,0))/\cs.length=tg.length/\∀ j:Nat,j ∉ dirty->cs[j]? = tg[j]?
theorem Twd.keep{l:List Nat}(h:Twd gd T tg l W)(e:ToW gd T tg W W'):Twd gd T tg l W':=by
 obtain⟨cs,h1,h2,h3⟩:=h;obtain⟨cs',k1,k2,k3⟩:=e.2 cs h1 h2;exact⟨cs',k1,k2,fun j hj=>k3 j (h3 j hj)⟩
theorem Twd.cell{l:List Nat}(h:Twd gd T tg l W)(j:Nat)(hj:j<tg.length):(∃ x,W.cell? ⟨gd,j,none⟩=some x)/\W.frozen? ⟨gd,j,none⟩=false/\gd<W.heap.size:=by
 obtain⟨cs,h1,h2,_⟩:=h;have hc:=cell_of h1 j (cs[j]'(by omega)) (by simp[show j<cs.length by omega]);exact⟨⟨_,hc⟩,Zh h1 j,lt_of_cell hc⟩
def Dn(gd:Nat)(T:TypeId)(tg:List Value)(j:Nat)(W:World):Prop:=∃ cs:List Value,W.heap[gd]? = some (.cells cs.toArray T (0,0))/\cs.length=tg.length/\cs[j]? = tg[j]?
theorem Dn.keep{j:Nat}(h:Dn gd T tg j W)(e:ToW gd T tg W W'):Dn gd T tg j W':=by
 obtain⟨cs,h1,h2,h3⟩:=h;obtain⟨cs',k1,k2,k3⟩:=e.2 cs h1 h2;exact⟨cs',k1,k2,k3 j h3⟩
theorem Twd.set{l:List Nat}(h:Twd gd T tg l W)(j:Nat)(v:Value)(hj:tg[j]? = some v):Dn gd T tg j (W.setCell ⟨gd,j,none⟩ v):=by
 obtain⟨cs,h1,h2,_⟩:=h;have hjl:=(List.getElem?_eq_some_iff.1 hj).1;refine⟨cs.set j v,?_,by rw[List.length_set,h2],by rw[hj,List.getElem?_set_self (by omega)]⟩;have:=Yo h1 j v;rwa[List.setIfInBounds_toArray]at this
theorem Twd.fin{l:List Nat}(h:Twd gd T tg l W)(hd:∀ j∈l,Dn gd T tg j W):W.heap[gd]? = some (.cells tg.toArray T (0,0)):=by
 obtain⟨cs,h1,h2,h3⟩:=h
 have:cs=tg:=by
  apply List.ext_getElem?;intro j;by_cases hj:j∈l
  ·obtain⟨cs',k1,_,k3⟩:=hd j hj;rw[h1]at k1;simp only[Option.some.injEq,Obj.cells.injEq,and_true]at k1;have:=congrArg Array.toList k1;simp only at this;rw[this];exact k3
  ·exact h3 j hj
 rw[<- this];exact h1
end
end
end Go.Proofs.YtoliamijgmifkaaGreatDoor
