/- The methods of tokens: String. -/
import Derived.Test.YtlfoalomaofejaaGreatDoorM39
import Derived.Lib.ItoaLen
set_option linter.all false
set_option maxRecDepth 100000
set_option maxHeartbeats 4000000
namespace Go.Proofs.YtlfoalomaofejaaGreatDoor
section
open Go.RowKit DT SS TR LT Go
def Hp(n:Int):ByteArray:=⟨(Lib.itoa n).toArray⟩
def tx3(idx:Nat)(id:Int)(cls pos st q:Nat)(h:ByteArray):ByteArray:=(Hp (idx:Int))++⟨#[58]⟩
def tx7(idx:Nat)(id:Int)(cls pos st q:Nat)(h:ByteArray):ByteArray:=(tx3 idx id cls pos st q h)++(strOfNums (Lib.quoteZ Lib.goPrintTabs h))
def tx8(idx:Nat)(id:Int)(cls pos st q:Nat)(h:ByteArray):ByteArray:=(tx7 idx id cls pos st q h)++⟨#[32,40]⟩
def Zf7(idx:Nat)(id:Int)(cls pos st q:Nat)(h:ByteArray):ByteArray:=(tx8 idx id cls pos st q h)++(Hp (pos:Int))
def Zf6(idx:Nat)(id:Int)(cls pos st q:Nat)(h:ByteArray):ByteArray:=(Zf7 idx id cls pos st q h)++⟨#[58,32]⟩
def Zf5(idx:Nat)(id:Int)(cls pos st q:Nat)(h:ByteArray):ByteArray:=(Zf6 idx id cls pos st q h)++(Hp (st:Int))
def Zf4(idx:Nat)(id:Int)(cls pos st q:Nat)(h:ByteArray):ByteArray:=(Zf5 idx id cls pos st q h)++⟨#[44,32]⟩
def Zf3(idx:Nat)(id:Int)(cls pos st h:Nat)(q:ByteArray):ByteArray:=(Zf4 idx id cls pos st h q)++(Hp (h:Int))
def Zf2(idx:Nat)(id:Int)(cls pos st q:Nat)(h:ByteArray):ByteArray:=(Zf3 idx id cls pos st q h)++⟨#[41,32]⟩
def Zf1(idx:Nat)(id:Int)(cls pos st q:Nat)(h:ByteArray):ByteArray:=(Zf2 idx id cls pos st q h)++(Yj cls)
def Zf0(idx:Nat)(id:Int)(cls pos st q:Nat)(h:ByteArray):ByteArray:=(Zf1 idx id cls pos st q h)++⟨#[32,91]⟩
def Zfz(idx:Nat)(id:Int)(cls pos st q:Nat)(h:ByteArray):ByteArray:=(Zf0 idx id cls pos st q h)++(Hp id)
def Zlc(idx:Nat)(id:Int)(cls pos st q:Nat)(h:ByteArray):ByteArray:=(Zfz idx id cls pos st q h)++⟨#[93]⟩
def Yk(idx:Nat)(id:Int)(pos st q:Nat)(h:ByteArray):Prop:=idx<=1000000000/\(-1<=id/\id<=1000000)/\pos<=1000000000/\st<=1000000000/\q<=1000000000/\h.size<=1000
theorem Vm(n:Int)(h:-1<=n)(h1:n<=1000000000):(Hp n).size<=21:=by
 have:=Lib.itoa_length_le n Om Om;unfold Hp;simpa [ByteArray.size] using this
theorem Kg(s:ByteArray)(h:s.size<=1000):(strOfNums (Lib.quoteZ Lib.goPrintTabs s)).size<=10002:=by
 have:=Lib.quoteZ_length_le Lib.goPrintTabs s;rw[strOfNums_size];omega
theorem Mt(c:Nat):(Yj c).size<=7:=by
 unfold Yj
 split
 ·decide
 split
 ·decide
 split
 ·decide
 split<;>decide
theorem Bx{idx:Nat}{id:Int}{cls pos st z:Nat}{q:ByteArray}(h:Yk idx id pos st z q):(tx3 idx id cls pos st z q).size<=22:=by
 unfold tx3;have:=Vm (idx:Int) (by have:=h;unfold Yk at this;omega) (by have:=h;unfold Yk at this;omega);simp only[ByteArray.size_append];have e:(⟨#[58]⟩:ByteArray).size=1:=rfl;omega
theorem Bw{idx:Nat}{id:Int}{cls pos st z:Nat}{q:ByteArray}(h:Yk idx id pos st z q):(tx7 idx id cls pos st z q).size<=10024:=by
 unfold tx7;have:=Bx (cls:=cls) h;have:=Kg q h.2.2.2.2.2;simp only[ByteArray.size_append];omega
theorem Bv{idx:Nat}{id:Int}{cls pos st z:Nat}{q:ByteArray}(h:Yk idx id pos st z q):(tx8 idx id cls pos st z q).size<=10026:=by
 unfold tx8;have:=Bw (cls:=cls) h;simp only[ByteArray.size_append];have e:(⟨#[32,40]⟩:ByteArray).size=2:=rfl;omega
theorem Gt{idx:Nat}{id:Int}{cls pos st z:Nat}{q:ByteArray}(h:Yk idx id pos st z q):(Zf7 idx id cls pos st z q).size<=10047:=by
 unfold Zf7;have:=Bv (cls:=cls) h;have:=Vm (pos:Int) (by have:=h;unfold Yk at this;omega) (by have:=h;unfold Yk at this;omega);simp only[ByteArray.size_append];omega
theorem Gr{idx:Nat}{id:Int}{cls pos st z:Nat}{q:ByteArray}(h:Yk idx id pos st z q):(Zf6 idx id cls pos st z q).size<=10049:=by
 unfold Zf6;have:=Gt (cls:=cls) h;simp only[ByteArray.size_append];have e:(⟨#[58,32]⟩:ByteArray).size=2:=rfl;omega
theorem Gq{idx:Nat}{id:Int}{cls pos st z:Nat}{q:ByteArray}(h:Yk idx id pos st z q):(Zf5 idx id cls pos st z q).size<=10070:=by
 unfold Zf5;have:=Gr (cls:=cls) h;have:=Vm (st:Int) (by have:=h;unfold Yk at this;omega) (by have:=h;unfold Yk at this;omega);simp only[ByteArray.size_append];omega
theorem Gp{idx:Nat}{id:Int}{cls pos st z:Nat}{q:ByteArray}(h:Yk idx id pos st z q):(Zf4 idx id cls pos st z q).size<=10072:=by
 unfold Zf4;have:=Gq (cls:=cls) h;simp only[ByteArray.size_append];have e:(⟨#[44,32]⟩:ByteArray).size=2:=rfl;omega
theorem Gn{idx:Nat}{id:Int}{cls pos st q:Nat}{z:ByteArray}(h:Yk idx id pos st q z):(Zf3 idx id cls pos st q z).size<=10093:=by
 unfold Zf3;have:=Gp (cls:=cls) h;have:=Vm (q:Int) (by have:=h;unfold Yk at this;omega) (by have:=h;unfold Yk at this;omega);simp only[ByteArray.size_append];omega
theorem Gm{idx:Nat}{id:Int}{cls pos st z:Nat}{q:ByteArray}(h:Yk idx id pos st z q):(Zf2 idx id cls pos st z q).size<=10095:=by
 unfold Zf2;have:=Gn (cls:=cls) h;simp only[ByteArray.size_append];have e:(⟨#[41,32]⟩:ByteArray).size=2:=rfl;omega
theorem Gk{idx:Nat}{id:Int}{cls pos st z:Nat}{q:ByteArray}(h:Yk idx id pos st z q):(Zf1 idx id cls pos st z q).size<=10102:=by
 unfold Zf1;have:=Gm (cls:=cls) h;have:=Mt cls;simp only[ByteArray.size_append];omega
theorem Gj{idx:Nat}{id:Int}{cls pos st z:Nat}{q:ByteArray}(h:Yk idx id pos st z q):(Zf0 idx id cls pos st z q).size<=10104:=by
 unfold Zf0;have:=Gk (cls:=cls) h;simp only[ByteArray.size_append];have e:(⟨#[32,91]⟩:ByteArray).size=2:=rfl;omega
theorem Zfy{idx:Nat}{id:Int}{cls pos st z:Nat}{q:ByteArray}(h:Yk idx id pos st z q):(Zfz idx id cls pos st z q).size<=10125:=by
 unfold Zfz;have:=Gj (cls:=cls) h;have:=Vm id (by have:=h;unfold Yk at this;omega) (by have:=h;unfold Yk at this;omega);simp only[ByteArray.size_append];omega
def Zcr(t:Y0):ByteArray:=Zlc t.index t.id t.cls t.pos t.start t.fin t.surf
theorem Zlh{d:Zg}{us:List GRec}(t:Y0)(kd:Nat)(pu:Option Addr)(w:World)(ht:Uh d us t)(hT:Tbs w) :
  Calls Tryz.prog 78 #[.agg (Yn kd pu t).toArray] w λe w'=>e=.returned (.string (Zcr t))/\Zf w w':=by
 have mixed:Tryz.prog.follows .mixedOrders=true:=Kr
 obtain⟨n0,n1,n2,n3,n4,n5⟩:=ht.num;have ab:=ht.cls;clear ht;have X0:Zf w (w.alloc (Zu kd pu t)):=(Fl _).alloc _;obtain⟨idx,id,cls,pos,st,L,J⟩:=t;show Calls _ _ _ _ λe w'=>e=.returned (.string (Zlc idx id cls pos st L J))/\_
 simp only at n0 n1 n2 n3 n4 n5 ab;obtain⟨V,aa⟩:∃ V,V=w.heap.size:=⟨_,rfl⟩;have K1:=alloc_at' w (Zu kd pu ⟨idx,id,cls,pos,st,L,J⟩) aa;go_enter Tryz.func78,Tryz.ntmps78
 have z:Hid (Yk idx id pos st L J):=Ai1 n0 (Ai1 n1 (Ai1 n2 (Ai1 n3 (Ai1 n4 n5))));clear n0 n1 n2 n3 n4 n5;go_upto_region 1 with fail
 have HX:=Hd X0;have HT:=Hd (hT.ext X0)
 have au:Hid (∀ W,Zf (w.alloc (Zu kd pu ⟨idx,id,cls,pos,st,L,J⟩)) W->W.cell? ⟨V,0,none⟩=some (.int .i64 (idx:Int))/\W.cell? ⟨V,1,none⟩=some (.int .i64 id)/\W.cell? ⟨V,2,none⟩=some (.int .i64 (cls:Int))/\W.cell? ⟨V,3,none⟩=some (.int .i64 (pos:Int))/\W.cell? ⟨V,4,none⟩=some (.int .i64 (st:Int))/\W.cell? ⟨V,5,none⟩=some (.int .i64 (L:Int))/\W.cell? ⟨V,6,none⟩=some (.string J)):=λW f=>by
  obtain⟨b0,b1,b2,b3,b4,b5,b6,_⟩:=L5 (f.heap K1 (λe=>e));exact⟨b0,b1,b2,b3,b4,b5,b6⟩
 rw[<- aa];clear aa X0 hT K1;generalize w.alloc _=w1 at *;refine Ye 34 35 #[false,false,false,false,false,false,false,false,false,false,false,false,false,false,false,false,false,false,false,false,false,false,false,false,false,false,false,false,false,false,false,false,false,false,false] (λW=>Zf w1 W/\W.cell? ⟨V,0,none⟩=some (.int .i64 (idx:Int))/\W.cell? ⟨V,1,none⟩=some (.int .i64 id)/\W.cell? ⟨V,2,none⟩=some (.int .i64 (cls:Int))/\W.cell? ⟨V,3,none⟩=some (.int .i64 (pos:Int))/\W.cell? ⟨V,4,none⟩=some (.int .i64 (st:Int))/\W.cell? ⟨V,5,none⟩=some (.int .i64 (L:Int))/\W.cell? ⟨V,6,none⟩=some (.string J)) mixed rfl rfl (⟨(Fl w1).drew,au.out w1.drew ((Fl w1).drew)⟩) (λhS=>?_);refine WL.go [(0,3),(1,4),(4,7),(5,8),(9,12),(10,13),(14,17),(15,18),(19,22),(20,23),(24,27),(25,28),(29,32),(30,33)] ?_;iterate 14 (refine WL.tk (v:=?_) rfl rfl Kr (λ_ _ _ h=>h) (Or.inl ⟨Rf,?_⟩) (by assumption) ?_;rotate_left;(focus (intro w q;(try obtain⟨bl,b0,b1,b2,b3,b4,b5,b6⟩:=q);go_simp;(try with_reducible rfl)));simp only[Act.put,Sa,Sb1,Sc])
 refine WZ.flowT 1 34 [(2,5,[]),(3,6,[(2,5)]),(6,9,[]),(7,10,[(3,6),(6,9)]),(8,11,[(7,10)]),(11,14,[]),(12,15,[(8,11),(11,14)]),(13,16,[(12,15)]),(16,19,[]),(17,20,[(13,16),(16,19)]),(18,21,[(17,20)]),(21,24,[]),(22,25,[(18,21),(21,24)]),(23,26,[(22,25)]),(26,29,[]),(27,30,[(23,26),(26,29)]),(28,31,[(27,30)]),(31,34,[]),(32,35,[(28,31),(31,34)]),(33,36,[(32,35)])]
  [(2,λv _=>v=.string (Hp (idx:Int))),(3,λv _=>v=.string (tx3 idx id cls pos st L J)),(6,λv _=>v=.string (strOfNums (Lib.quoteZ Lib.goPrintTabs J))),(7,λv _=>v=.string (tx7 idx id cls pos st L J)),(8,λv _=>v=.string (tx8 idx id cls pos st L J)),(11,λv _=>v=.string (Hp (pos:Int))),(12,λv _=>v=.string (Zf7 idx id cls pos st L J)),(13,λv _=>v=.string (Zf6 idx id cls pos st L J)),(16,λv _=>v=.string (Hp (st:Int))),(17,λv _=>v=.string (Zf5 idx id cls pos st L J)),(18,λv _=>v=.string (Zf4 idx id cls pos st L J)),(21,λv _=>v=.string (Hp (L:Int))),(22,λv _=>v=.string (Zf3 idx id cls pos st L J)),(23,λv _=>v=.string (Zf2 idx id cls pos st L J)),(26,λv _=>v=.string (Yj cls)),(27,λv _=>v=.string (Zf1 idx id cls pos st L J)),(28,λv _=>v=.string (Zf0 idx id cls pos st L J)),(31,λv _=>v=.string (Hp id)),(32,λv _=>v=.string (Zfz idx id cls pos st L J)),(33,λv _=>v=.string (Zlc idx id cls pos st L J))]
  Kr rfl (λW M h f=>⟨Z5 h.1 f,au.out M (Z5 h.1 f)⟩) ?_ (by assumption) ?_ (λvals W X q hv=>?_)
 ·simp only[List.forall_mem_cons];exact⟨λv W M f h=>h,λv W M f h=>h,λv W M f h=>h,λv W M f h=>h,λv W M f h=>h,λv W M f h=>h,λv W M f h=>h,λv W M f h=>h,λv W M f h=>h,λv W M f h=>h,λv W M f h=>h,λv W M f h=>h,λv W M f h=>h,λv W M f h=>h,λv W M f h=>h,λv W M f h=>h,λv W M f h=>h,λv W M f h=>h,λv W M f h=>h,λv W M f h=>h,λ_ h=>nomatch h⟩
 ·simp only[List.forall_mem_cons];refine⟨⟨_,rfl,λvals W q A U K G=>?_⟩,⟨_,rfl,λvals W q A U K G=>?_⟩,⟨_,rfl,λvals W q A U K G=>?_⟩,⟨_,rfl,λvals W q A U K G=>?_⟩,⟨_,rfl,λvals W q A U K G=>?_⟩,⟨_,rfl,λvals W q A U K G=>?_⟩,⟨_,rfl,λvals W q A U K G=>?_⟩,⟨_,rfl,λvals W q A U K G=>?_⟩,⟨_,rfl,λvals W q A U K G=>?_⟩,⟨_,rfl,λvals W q A U K G=>?_⟩,⟨_,rfl,λvals W q A U K G=>?_⟩,⟨_,rfl,λvals W q A U K G=>?_⟩,⟨_,rfl,λvals W q A U K G=>?_⟩,⟨_,rfl,λvals W q A U K G=>?_⟩,⟨_,rfl,λvals W q A U K G=>?_⟩,⟨_,rfl,λvals W q A U K G=>?_⟩,⟨_,rfl,λvals W q A U K G=>?_⟩,⟨_,rfl,λvals W q A U K G=>?_⟩,⟨_,rfl,λvals W q A U K G=>?_⟩,⟨_,rfl,λvals W q A U K G=>?_⟩,λ_ h=>nomatch h⟩
  ·
   have I:=Hd q.1;clear A q;simp only[Yg];go_simp;go_wp2_with (go_at_call 125;refine (Pt (idx:Int) W (by have:=z.out;unfold Yk at this;omega) (by have:=z.out;unfold Yk at this;omega) (HT.out.ext I.out)).mono ?_;rintro e Y ⟨rfl,X⟩)
   exact G.out _ _ Y rfl X rfl
  ·
   have h2:vals 2=.string (Hp (idx:Int)):=A (2,5) (by simp);have I:=Hd q.1;clear A q;simp only[Yg,h2]at G⊢;clear h2;have q2:=Vm (idx:Int) (by have:=z.out;unfold Yk at this;omega) (by have:=z.out;unfold Yk at this;omega);have Z:¬ 9223372036854775807<(Hp (idx:Int)).size+1:=Om;clear q2;go_simp;exact G.out _ _ W rfl (Fl _) rfl
  ·
   have I:=Hd q.1;clear A q;simp only[Yg];go_simp;go_wp2_with (go_at_call 126;refine (Zgl J W (by have:=z.out;unfold Yk at this;omega) (HT.out.ext I.out)).mono ?_;rintro e Y ⟨rfl,X⟩)
   exact G.out _ _ Y rfl X rfl
  ·
   have h3:vals 3=.string (tx3 idx id cls pos st L J):=A (3,6) (by simp);have h6:vals 6=.string (strOfNums (Lib.quoteZ Lib.goPrintTabs J)):=A (6,9) (by simp);have I:=Hd q.1;clear A q;simp only[Yg,h3,h6]at G⊢;clear h3 h6;have q3:=Bx (cls:=cls) z.out;have q6:=Kg J z.out.2.2.2.2.2;have Z:¬ 9223372036854775807<(tx3 idx id cls pos st L J).size+(strOfNums (Lib.quoteZ Lib.goPrintTabs J)).size:=Om;clear q3 q6;go_simp;exact G.out _ _ W rfl (Fl _) rfl
  ·
   have h7:vals 7=.string (tx7 idx id cls pos st L J):=A (7,10) (by simp);have I:=Hd q.1;clear A q;simp only[Yg,h7]at G⊢;clear h7;have q7:=Bw (cls:=cls) z.out;have Z:¬ 9223372036854775807<(tx7 idx id cls pos st L J).size+2:=Om;clear q7;go_simp;exact G.out _ _ W rfl (Fl _) rfl
  ·
   have I:=Hd q.1;clear A q;simp only[Yg];go_simp;go_wp2_with (go_at_call 125;refine (Pt (pos:Int) W (by have:=z.out;unfold Yk at this;omega) (by have:=z.out;unfold Yk at this;omega) (HT.out.ext I.out)).mono ?_;rintro e Y ⟨rfl,X⟩)
   exact G.out _ _ Y rfl X rfl
  ·
   have h8:vals 8=.string (tx8 idx id cls pos st L J):=A (8,11) (by simp);have ar:vals 11=.string (Hp (pos:Int)):=A (11,14) (by simp);have I:=Hd q.1;clear A q;simp only[Yg,h8,ar]at G⊢;clear h8 ar;have q8:=Bv (cls:=cls) z.out;have bf:=Vm (pos:Int) (by have:=z.out;unfold Yk at this;omega) (by have:=z.out;unfold Yk at this;omega);have Z:¬ 9223372036854775807<(tx8 idx id cls pos st L J).size+(Hp (pos:Int)).size:=Om;clear q8 bf;go_simp;exact G.out _ _ W rfl (Fl _) rfl
  ·
   have aq:vals 12=.string (Zf7 idx id cls pos st L J):=A (12,15) (by simp);have I:=Hd q.1;clear A q;simp only[Yg,aq]at G⊢;clear aq;have be:=Gt (cls:=cls) z.out;have Z:¬ 9223372036854775807<(Zf7 idx id cls pos st L J).size+2:=Om;clear be;go_simp;exact G.out _ _ W rfl (Fl _) rfl
  ·
   have I:=Hd q.1;clear A q;simp only[Yg];go_simp;go_wp2_with (go_at_call 125;refine (Pt (st:Int) W (by have:=z.out;unfold Yk at this;omega) (by have:=z.out;unfold Yk at this;omega) (HT.out.ext I.out)).mono ?_;rintro e Y ⟨rfl,X⟩)
   exact G.out _ _ Y rfl X rfl
  ·
   have ap:vals 13=.string (Zf6 idx id cls pos st L J):=A (13,16) (by simp);have ao:vals 16=.string (Hp (st:Int)):=A (16,19) (by simp);have I:=Hd q.1;clear A q;simp only[Yg,ap,ao]at G⊢;clear ap ao;have bd:=Gr (cls:=cls) z.out;have bc:=Vm (st:Int) (by have:=z.out;unfold Yk at this;omega) (by have:=z.out;unfold Yk at this;omega);have Z:¬ 9223372036854775807<(Zf6 idx id cls pos st L J).size+(Hp (st:Int)).size:=Om;clear bd bc;go_simp;exact G.out _ _ W rfl (Fl _) rfl
  ·
   have am:vals 17=.string (Zf5 idx id cls pos st L J):=A (17,20) (by simp);have I:=Hd q.1;clear A q;simp only[Yg,am]at G⊢;clear am;have bb:=Gq (cls:=cls) z.out;have Z:¬ 9223372036854775807<(Zf5 idx id cls pos st L J).size+2:=Om;clear bb;go_simp;exact G.out _ _ W rfl (Fl _) rfl
  ·
   have I:=Hd q.1;clear A q;simp only[Yg];go_simp;go_wp2_with (go_at_call 125;refine (Pt (L:Int) W (by have:=z.out;unfold Yk at this;omega) (by have:=z.out;unfold Yk at this;omega) (HT.out.ext I.out)).mono ?_;rintro e Y ⟨rfl,X⟩)
   exact G.out _ _ Y rfl X rfl
  ·
   have al:vals 18=.string (Zf4 idx id cls pos st L J):=A (18,21) (by simp);have ak:vals 21=.string (Hp (L:Int)):=A (21,24) (by simp);have I:=Hd q.1;clear A q;simp only[Yg,al,ak]at G⊢;clear al ak;have a8:=Gp (cls:=cls) z.out;have a7:=Vm (L:Int) (by have:=z.out;unfold Yk at this;omega) (by have:=z.out;unfold Yk at this;omega);have Z:¬ 9223372036854775807<(Zf4 idx id cls pos st L J).size+(Hp (L:Int)).size:=Om;clear a8 a7;go_simp;exact G.out _ _ W rfl (Fl _) rfl
  ·
   have aj:vals 22=.string (Zf3 idx id cls pos st L J):=A (22,25) (by simp);have I:=Hd q.1;clear A q;simp only[Yg,aj]at G⊢;clear aj;have a6:=Gn (cls:=cls) z.out;have Z:¬ 9223372036854775807<(Zf3 idx id cls pos st L J).size+2:=Om;clear a6;go_simp;exact G.out _ _ W rfl (Fl _) rfl
  ·
   have I:=Hd q.1;clear A q;simp only[Yg];go_simp;go_wp2_with (go_at_call 79;refine (Cx cls ab W).mono ?_;rintro e Y ⟨rfl,X⟩)
   exact G.out _ _ Y rfl X rfl
  ·
   have ai:vals 23=.string (Zf2 idx id cls pos st L J):=A (23,26) (by simp);have ah:vals 26=.string (Yj cls):=A (26,29) (by simp);have I:=Hd q.1;clear A q;simp only[Yg,ai,ah]at G⊢;clear ai ah;have a1:=Gm (cls:=cls) z.out;have az:=Mt cls;have Z:¬ 9223372036854775807<(Zf2 idx id cls pos st L J).size+(Yj cls).size:=Om;clear a1 az;go_simp;exact G.out _ _ W rfl (Fl _) rfl
  ·
   have ag:vals 27=.string (Zf1 idx id cls pos st L J):=A (27,30) (by simp);have I:=Hd q.1;clear A q;simp only[Yg,ag]at G⊢;clear ag;have ay:=Gk (cls:=cls) z.out;have Z:¬ 9223372036854775807<(Zf1 idx id cls pos st L J).size+2:=Om;clear ay;go_simp;exact G.out _ _ W rfl (Fl _) rfl
  ·
   have I:=Hd q.1;clear A q;simp only[Yg];go_simp;go_wp2_with (go_at_call 125;refine (Pt id W (by have:=z.out;unfold Yk at this;omega) (by have:=z.out;unfold Yk at this;omega) (HT.out.ext I.out)).mono ?_;rintro e Y ⟨rfl,X⟩)
   exact G.out _ _ Y rfl X rfl
  ·
   have af:vals 28=.string (Zf0 idx id cls pos st L J):=A (28,31) (by simp);have ae:vals 31=.string (Hp id):=A (31,34) (by simp);have I:=Hd q.1;clear A q;simp only[Yg,af,ae]at G⊢;clear af ae;have ax:=Gj (cls:=cls) z.out;have aw:=Vm id (by have:=z.out;unfold Yk at this;omega) (by have:=z.out;unfold Yk at this;omega);have Z:¬ 9223372036854775807<(Zf0 idx id cls pos st L J).size+(Hp id).size:=Om;clear ax aw;go_simp;exact G.out _ _ W rfl (Fl _) rfl
  ·
   have ad:vals 32=.string (Zfz idx id cls pos st L J):=A (32,35) (by simp);have I:=Hd q.1;clear A q;simp only[Yg,ad]at G⊢;clear ad;have av:=Zfy (cls:=cls) z.out;have Z:¬ 9223372036854775807<(Zfz idx id cls pos st L J).size+1:=Om;clear av;go_simp;exact G.out _ _ W rfl (Fl _) rfl
 ·have ac:vals 33=.string (Zlc idx id cls pos st L J):=hv (33,36,[(32,35)]) (by simp);simp only[Yg,List.map_cons,List.map_nil,Act.put,Sa,Sb1,Sc,ac];clear hv ac;generalize vals 2=v2 at *;generalize vals 3=v3 at *;generalize vals 6=v6 at *;generalize vals 7=v7 at *;generalize vals 8=v8 at *;generalize vals 11=bk at *;generalize vals 12=v12 at *;generalize vals 13=bj at *;generalize vals 16=bi at *;generalize vals 17=bh at *;generalize vals 18=bg at *;generalize vals 21=v21 at *;generalize vals 22=v22 at *;generalize vals 23=v23 at *;generalize vals 26=v26 at *;generalize vals 27=v27 at *;generalize vals 28=v28 at *;generalize vals 31=v31 at *;generalize vals 32=v32 at *;have HW:=Hd (Z5 HX.out q.1);clear X;refine WZ.last rfl Kr Kr (λK G=>?_);go_simp;refine G.out _ _ ?_;clear G K;go_wp2_with fail
  first|go_ret|go_ret2
  exact⟨rfl,HW.out⟩
end
section
open Go.RowKit DT SS TR LT Go
abbrev TTD:TypeId:=148
def Zd8(t:Y0)(b r p:ByteArray)(v:Value):Prop:=∃ A n c B m e,v=.agg #[.int .i64 t.id,.int .i64 (t.start:Int),.int .i64 (t.fin:Int),.string t.surf,.string (Yj t.cls),.slice A n c,.string b,.string r,.string p,.slice B m e]
theorem Hx{W:World}{g:Nat}{T:TypeId}{cs:Array Value}(j:Nat)(v:Value)(q:Array Value)(e:cs.setIfInBounds j v=q)(h:W.heap[g]?=some (.cells cs T (0,0)) ):(W.setCell ⟨g,j,none⟩ v).heap[g]?=some (.cells q T (0,0))/\Fr (λk=>k=g) W (W.setCell ⟨g,j,none⟩ v):=by
 subst e;exact⟨Yt h j v,(Fl W).setCell ⟨g,j,none⟩ v (λ_=>rfl)⟩
theorem Zm4{W:World}{g:Nat}{T:TypeId}{a0 a1 a2 a3 a4 a5 L J G a9:Value}(v0 z v2 v3 v4 v5 A I K v9:Value)(h:W.heap[g]?=some (.cells #[a0,a1,a2,a3,a4,a5,L,J,G,a9] T (0,0))):((((((((((W.setCell ⟨g,0,none⟩ v0).setCell ⟨g,1,none⟩ z).setCell ⟨g,2,none⟩ v2).setCell ⟨g,3,none⟩ v3).setCell ⟨g,4,none⟩ v4).setCell ⟨g,5,none⟩ v5).setCell ⟨g,6,none⟩ A).setCell ⟨g,7,none⟩ I).setCell ⟨g,8,none⟩ K).setCell ⟨g,9,none⟩ v9).heap[g]?=some (.cells #[v0,z,v2,v3,v4,v5,A,I,K,v9] T (0,0))/\Fr (λj=>j=g) W ((((((((((W.setCell ⟨g,0,none⟩ v0).setCell ⟨g,1,none⟩ z).setCell ⟨g,2,none⟩ v2).setCell ⟨g,3,none⟩ v3).setCell ⟨g,4,none⟩ v4).setCell ⟨g,5,none⟩ v5).setCell ⟨g,6,none⟩ A).setCell ⟨g,7,none⟩ I).setCell ⟨g,8,none⟩ K).setCell ⟨g,9,none⟩ v9):=by
 have s0:=Hx 0 v0 #[v0,a1,a2,a3,a4,a5,L,J,G,a9] rfl h;generalize World.setCell _ ⟨g,0,none⟩ v0=W0 at *;have s1:=Hx 1 z #[v0,z,a2,a3,a4,a5,L,J,G,a9] rfl s0.1;generalize World.setCell _ ⟨g,1,none⟩ z=W1 at *;have s2:=Hx 2 v2 #[v0,z,v2,a3,a4,a5,L,J,G,a9] rfl s1.1;generalize World.setCell _ ⟨g,2,none⟩ v2=W2 at *;have s3:=Hx 3 v3 #[v0,z,v2,v3,a4,a5,L,J,G,a9] rfl s2.1;generalize World.setCell _ ⟨g,3,none⟩ v3=W3 at *;have Z:=Hx 4 v4 #[v0,z,v2,v3,v4,a5,L,J,G,a9] rfl s3.1;generalize World.setCell _ ⟨g,4,none⟩ v4=W4 at *;have Y:=Hx 5 v5 #[v0,z,v2,v3,v4,v5,L,J,G,a9] rfl Z.1;generalize World.setCell _ ⟨g,5,none⟩ v5=W5 at *;have X:=Hx 6 A #[v0,z,v2,v3,v4,v5,A,J,G,a9] rfl Y.1;generalize World.setCell _ ⟨g,6,none⟩ A=W6 at *;have V:=Hx 7 I #[v0,z,v2,v3,v4,v5,A,I,G,a9] rfl X.1;generalize World.setCell _ ⟨g,7,none⟩ I=W7 at *;have U:=Hx 8 K #[v0,z,v2,v3,v4,v5,A,I,K,a9] rfl V.1;generalize World.setCell _ ⟨g,8,none⟩ K=W8 at *;have M:=Hx 9 v9 #[v0,z,v2,v3,v4,v5,A,I,K,v9] rfl U.1;generalize World.setCell _ ⟨g,9,none⟩ v9=W9 at *;exact⟨M.1,(((((((((s0.2).trans s1.2 (λ_ _ q=>q)).trans s2.2 (λ_ _ q=>q)).trans s3.2 (λ_ _ q=>q)).trans Z.2 (λ_ _ q=>q)).trans Y.2 (λ_ _ q=>q)).trans X.2 (λ_ _ q=>q)).trans V.2 (λ_ _ q=>q)).trans U.2 (λ_ _ q=>q)).trans M.2 (λ_ _ q=>q)⟩
def Hq(w:World)(G:Nat)(z:Option Addr)(t:Y0)(h q g:Nat)(A:Option Addr)(n c:Nat)(B:Option Addr)(m e:Nat)(b r p:ByteArray)(W:World):Prop :=
 W.heap[h]?=some (Zu G z t)/\W.heap[q]?=some (.cells #[.int .i64 0,.int .i64 0,.int .i64 0,.string ⟨#[]⟩,.string ⟨#[]⟩,.slice none 0 0,.string ⟨#[]⟩,.string ⟨#[]⟩,.string ⟨#[]⟩,.slice none 0 0] TTD (0,0)) /\
 W.heap[g]?=some (.cells #[.int .i64 t.id,.int .i64 (t.start:Int),.int .i64 (t.fin:Int),.string t.surf,.string (Yj t.cls),.slice A n c,.string b,.string r,.string p,.slice B m e] TTD (0,0))/\Zf w W/\w.heap.size<=h/\h<g/\q<g/\h<q
theorem Hq.ext{w W J:World}{I:Nat}{G:Option Addr}{t:Y0}{z q g:Nat}{A:Option Addr}{n c:Nat}{B:Option Addr}{m e:Nat}{b r p:ByteArray}(h:Hq w I G t z q g A n c B m e b r p W)(f:Zf W J):Hq w I G t z q g A n c B m e b r p J :=
 ⟨f.heap h.1 id,f.heap h.2.1 id,f.heap h.2.2.1 id,Z5 h.2.2.2.1 f,h.2.2.2.2⟩
theorem Hq.put{w W:World}{U:Nat}{J:Option Addr}{t:Y0}{G z g:Nat}{A:Option Addr}{n c:Nat}{B:Option Addr}{m e:Nat}{b r p:ByteArray}(h:Hq w U J t G z g A n c B m e b r p W){Y:Option Addr}{L c':Nat}{B':Option Addr}{M V:Nat}{X I K:ByteArray}(j:Nat)(v:Value)
  (Z:(#[.int .i64 t.id,.int .i64 (t.start:Int),.int .i64 (t.fin:Int),.string t.surf,.string (Yj t.cls),.slice A n c,.string b,.string r,.string p,.slice B m e]:Array Value).setIfInBounds j v=#[.int .i64 t.id,.int .i64 (t.start:Int),.int .i64 (t.fin:Int),.string t.surf,.string (Yj t.cls),.slice Y L c',.string X,.string I,.string K,.slice B' M V]) :
  Hq w U J t G z g Y L c' B' M V X I K (W.setCell ⟨g,j,none⟩ v):=by
 obtain⟨h1,h2,h3,h4,h5,h6,h7,h8⟩:=h;have F:Fr (λk=>k=g) W (W.setCell ⟨g,j,none⟩ v):=(Fl W).setCell ⟨g,j,none⟩ v (λ_=>rfl);refine⟨F.heap h1 Om,F.heap h2 Om,?_,h4.trans F (λk hk q=>Om),h5,h6,h7,h8⟩;rw[<- Z];exact Yt h3 j v
theorem Zkj{d:Zg}{us:List GRec}(t:Y0)(V H U:Nat)(M:Option Addr)(w:World)(ht:Uh d us t)(Y:Vd d us V M H U w) :
    Calls Tryz.prog 81 #[.agg (Yn V M t).toArray] w λe w'=>(∃ v,e=.returned v/\Zd8 t ((Zo d us t Ue).getD ⟨#[]⟩) ((Zo d us t Uc).getD ⟨#[]⟩) ((Zo d us t Ud).getD ⟨#[]⟩) v)/\Zf w w':=by
  have mixed:Tryz.prog.follows .mixedOrders=true:=Kr
  have az:∀ (W:World) (B:Option Addr) (l k:Nat),(binOp .eql 34 (.slice B l k) (.slice none 0 0)).run Tryz.prog W=.ok (.bool B.isNone) W:=λW B l k=>Go.run_eql_slice_nil W _ _ B l k Tryz.underlying34
  have ag:=Hd az;clear az;have a1:=ht.cls
  have CP:Hid (∀ W,Zf w W->Calls Tryz.prog 71 #[.agg (Yn V M t).toArray] W λe w'=>(∃ A n c,e=.returned (.slice A n c)/\(A=none->n=0/\c=0))/\Zf W w'):=λW f=>(Zet ht (Y.ext f)).mono λe w' ⟨v,h1,h2,h3⟩=>by
    obtain⟨A,c,rfl⟩:=Y2 h2;exact⟨⟨_,_,_,h1,λe=>by subst e;exact⟨by have:=Ld h2;rw[this];rfl,Le h2⟩⟩,h3⟩
  have CF:Hid (∀ W,Zf w W->Calls Tryz.prog 70 #[.agg (Yn V M t).toArray] W λe w'=>(∃ A n c,e=.returned (.slice A n c)/\(A=none->n=0/\c=0))/\Zf W w'):=λW f=>(Zbs ht (Y.ext f)).mono λe w' ⟨v,h1,h2,h3⟩=>by
    obtain⟨A,c,rfl⟩:=Y2 h2;exact⟨⟨_,_,_,h1,λe=>by subst e;exact⟨by have:=Ld h2;rw[this];rfl,Le h2⟩⟩,h3⟩
  have C1:Hid (∀ W,Zf w W->Calls Tryz.prog 73 #[.agg (Yn V M t).toArray] W λe w'=>e=.returned (Ys (Zo d us t Ue))/\Zf W w'):=λW f=>Kq ht (Y.ext f)
  have C2:Hid (∀ W,Zf w W->Calls Tryz.prog 74 #[.agg (Yn V M t).toArray] W λe w'=>e=.returned (Ys (Zo d us t Uc))/\Zf W w'):=λW f=>Ko ht (Y.ext f)
  have C3:Hid (∀ W,Zf w W->Calls Tryz.prog 75 #[.agg (Yn V M t).toArray] W λe w'=>e=.returned (Ys (Zo d us t Ud))/\Zf W w'):=λW f=>Kp ht (Y.ext f)
  clear ht Y;generalize Zo d us t Ue=p1 at *;generalize Zo d us t Uc=p2 at *;generalize Zo d us t Ud=p3 at *;have X0:Zf w (w.alloc (Zu V M t)):=(Fl _).alloc _;obtain⟨idx,id,cls,pos,st,fi,sf⟩:=t;unfold Zd8;simp only at a1⊢;obtain⟨J,ae⟩:∃ J,J=w.heap.size:=⟨_,rfl⟩;have K1:=alloc_at' w (Zu V M ⟨idx,id,cls,pos,st,fi,sf⟩) ae;go_enter Tryz.func81,Tryz.ntmps81
  go_upto_region 1 with fail
  rw[<- ae];obtain⟨rz,aq⟩:∃ rz,rz=J+1:=⟨_,rfl⟩;rw[<- aq];have K2:=alloc_at' (w.alloc (Zu V M ⟨idx,id,cls,pos,st,fi,sf⟩)) (.cells #[.int .i64 0,.int .i64 0,.int .i64 0,.string ⟨#[]⟩,.string ⟨#[]⟩,.slice none 0 0,.string ⟨#[]⟩,.string ⟨#[]⟩,.string ⟨#[]⟩,.slice none 0 0] TTD) (show rz=_ by rw[aq,Za,ae]);have K1:=((Fl (w.alloc (Zu V M ⟨idx,id,cls,pos,st,fi,sf⟩))).alloc (.cells #[.int .i64 0,.int .i64 0,.int .i64 0,.string ⟨#[]⟩,.string ⟨#[]⟩,.slice none 0 0,.string ⟨#[]⟩,.string ⟨#[]⟩,.string ⟨#[]⟩,.slice none 0 0] TTD):Zf _ _).heap K1 (λe=>e);have X1:Zf w ((w.alloc (Zu V M ⟨idx,id,cls,pos,st,fi,sf⟩)).alloc (.cells #[.int .i64 0,.int .i64 0,.int .i64 0,.string ⟨#[]⟩,.string ⟨#[]⟩,.slice none 0 0,.string ⟨#[]⟩,.string ⟨#[]⟩,.string ⟨#[]⟩,.slice none 0 0] TTD)):=X0.alloc _;have bd:=Hd ((Om:w.heap.size<=J/\rz=J+1));have HX:=Hd X1;clear ae aq X0 X1;generalize World.alloc (World.alloc _ _) _=w1 at *;have HK:=Hd (Ai1 K1 K2);have aw:Hid (∀ W,Zf w1 W->W.cell? ⟨J,0,none⟩=some (.int .i64 (idx:Int))/\W.cell? ⟨J,1,none⟩=some (.int .i64 id)/\W.cell? ⟨J,2,none⟩=some (.int .i64 (cls:Int))/\W.cell? ⟨J,3,none⟩=some (.int .i64 (pos:Int))/\W.cell? ⟨J,4,none⟩=some (.int .i64 (st:Int))/\W.cell? ⟨J,5,none⟩=some (.int .i64 (fi:Int))/\W.cell? ⟨J,6,none⟩=some (.string sf)/\W.cell? ⟨J,7,none⟩=some (.pointer (some ⟨V,0,none⟩))/\W.cell? ⟨J,8,none⟩=some (.pointer M)/\J<W.heap.size):=λW f=>L5 (f.heap K1 (λe=>e))
  clear K1 K2;refine Ye 17 18 #[false,false,false,false,false,false,false,false,false,false,false,false,false,false,false,false,false,false] (λW=>Zf w1 W/\W.cell? ⟨J,0,none⟩=some (.int .i64 (idx:Int))/\W.cell? ⟨J,1,none⟩=some (.int .i64 id)/\W.cell? ⟨J,2,none⟩=some (.int .i64 (cls:Int))/\W.cell? ⟨J,3,none⟩=some (.int .i64 (pos:Int))/\W.cell? ⟨J,4,none⟩=some (.int .i64 (st:Int))/\W.cell? ⟨J,5,none⟩=some (.int .i64 (fi:Int))/\W.cell? ⟨J,6,none⟩=some (.string sf)/\W.cell? ⟨J,7,none⟩=some (.pointer (some ⟨V,0,none⟩))/\W.cell? ⟨J,8,none⟩=some (.pointer M)/\J<W.heap.size) mixed rfl rfl (⟨(Fl w1).drew,aw.out w1.drew ((Fl w1).drew)⟩) (λhS=>?_);refine WL.go [(0,4),(1,5),(2,6),(3,7),(4,8),(5,9),(6,10),(7,11),(8,12),(9,13),(11,15),(13,17)] ?_;iterate 12 (refine WL.tk (v:=?_) rfl rfl Kr (λ_ _ _ h=>h) (Or.inl ⟨Rf,?_⟩) (by assumption) ?_;rotate_left;(focus (intro w I;(try obtain⟨bj,b0,b1,b2,b3,b4,b5,b6,b7,b8,lb⟩:=I);go_simp;(try with_reducible rfl)));simp only[Act.put,Sa,Sb1,Sc])
  refine WZ.flowT 1 17 [(10,14,[]),(12,16,[]),(14,18,[]),(15,19,[(10,14),(12,16),(14,18)]),(16,3,[])]
    [(10,λv _=>v=.string (Yj cls)),(12,λv _=>∃ A n c,v=.slice A n c/\(A=none->n=0/\c=0)),(14,λv _=>∃ A n c,v=.slice A n c/\(A=none->n=0/\c=0)),
     (15,λv _=>∃ A n c B m e,v=.agg #[.int .i64 id,.int .i64 (st:Int),.int .i64 (fi:Int),.string sf,.string (Yj cls),.slice A n c,.string ⟨#[]⟩,.string ⟨#[]⟩,.string ⟨#[]⟩,.slice B m e]/\(A=none->n=0/\c=0)/\(B=none->m=0/\e=0)),
     (16,λv W=>∃ g,v=.pointer (some ⟨g,0,none⟩)/\w1.heap.size<=g/\W.heap[g]?=some (.cells #[.int .i64 0,.int .i64 0,.int .i64 0,.string ⟨#[]⟩,.string ⟨#[]⟩,.slice none 0 0,.string ⟨#[]⟩,.string ⟨#[]⟩,.string ⟨#[]⟩,.slice none 0 0] TTD (0,0)))]
    Kr rfl (λW W' h f=>⟨Z5 h.1 f,aw.out W' (Z5 h.1 f)⟩) ?_ (by assumption) ?_ (λvals W Z I hv=>?_)
  · simp only[List.forall_mem_cons]
    exact⟨λv W W' f h=>h,λv W W' f h=>h,λv W W' f h=>h,λv W W' f h=>h,λv W W' f ⟨g,h1,h2,h3⟩=>⟨g,h1,h2,f.heap h3 (λe=>e)⟩,λ_ h=>nomatch h⟩
  · simp only[List.forall_mem_cons]
    refine⟨⟨_,rfl,λvals W I Y Q' K hK=>?_⟩,⟨_,rfl,λvals W I Y Q' K hK=>?_⟩,⟨_,rfl,λvals W I Y Q' K hK=>?_⟩,⟨_,rfl,λvals W I Y Q' K hK=>?_⟩,⟨_,rfl,λvals W I Y Q' K hK=>?_⟩,λ_ h=>nomatch h⟩
    · have ab:=Hd I.1
      clear Y I;simp only[Yg];go_simp;go_wp2_with (go_at_call 79;refine (Cx cls a1 W).mono ?_;rintro e w5 ⟨rfl,Z⟩)
      exact hK.out _ _ w5 rfl Z rfl
    · have ab:=Hd I.1
      clear Y I;simp only[Yg];go_simp;go_wp2_with (go_at_call 71;refine (CP.out W (Z5 HX.out ab.out)).mono ?_;rintro e w5 ⟨⟨A,n,c,rfl,ar⟩,Z⟩)
      exact hK.out _ _ w5 rfl Z ⟨_,_,_,rfl,ar⟩
    · have ab:=Hd I.1
      clear Y I;simp only[Yg];go_simp;go_wp2_with (go_at_call 70;refine (CF.out W (Z5 HX.out ab.out)).mono ?_;rintro e w5 ⟨⟨A,n,c,rfl,ar⟩,Z⟩)
      exact hK.out _ _ w5 rfl Z ⟨_,_,_,rfl,ar⟩
    · have bc:vals 10=.string (Yj cls):=Y (10,14) (by simp)
      obtain⟨A,n,c,bb,bf⟩:∃ A n c,vals 12=.slice A n c/\(A=none->n=0/\c=0):=Y (12,16) (by simp);obtain⟨B,m,e,a8,be⟩:∃ A n c,vals 14=.slice A n c/\(A=none->n=0/\c=0):=Y (14,18) (by simp);clear Y I;simp only[Yg,bc,bb,a8]at hK⊢;clear bc bb a8;go_simp;exact hK.out _ _ W rfl (Fl _) ⟨_,_,_,_,_,_,rfl,bf,be⟩
    · have ab:=Hd I.1
      clear Y I;simp only[Yg];go_simp;exact hK.out _ _ _ rfl ((Fl _).alloc _) ⟨_,rfl,ab.out.size,alloc_at _ _⟩
  · obtain⟨A,n,c,B,m,e,a7,av,au⟩:∃ A n c B m e,vals 15=.agg #[.int .i64 id,.int .i64 (st:Int),.int .i64 (fi:Int),.string sf,.string (Yj cls),.slice A n c,.string ⟨#[]⟩,.string ⟨#[]⟩,.string ⟨#[]⟩,.slice B m e]/\(A=none->n=0/\c=0)/\(B=none->m=0/\e=0):=hv (15,19,[(10,14),(12,16),(14,18)]) (by simp)
    obtain⟨g,a6,hg,L⟩:∃ g,vals 16=.pointer (some ⟨g,0,none⟩)/\w1.heap.size<=g/\W.heap[g]?=some (.cells #[.int .i64 0,.int .i64 0,.int .i64 0,.string ⟨#[]⟩,.string ⟨#[]⟩,.slice none 0 0,.string ⟨#[]⟩,.string ⟨#[]⟩,.string ⟨#[]⟩,.slice none 0 0] TTD (0,0)):=hv (16,3,[]) (by simp);simp only[Yg,List.map_cons,List.map_nil,Act.put,Sa,Sb1,Sc,a7,a6];clear hv a7 a6;generalize vals 10=bi at *;generalize vals 12=v12 at *;generalize vals 14=bh at *;have HW:=Hd Z;have HG:=Hd (Ai1 hg L);clear Z;have z0:=cell_of L 0 _ rfl;have z1:=cell_of L 1 _ rfl;have z2:=cell_of L 2 _ rfl;have z3:=cell_of L 3 _ rfl;have z4:=cell_of L 4 _ rfl;have z5:=cell_of L 5 _ rfl;have z6:=cell_of L 6 _ rfl;have z7:=cell_of L 7 _ rfl;have z8:=cell_of L 8 _ rfl;have z9:=cell_of L 9 _ rfl;have pf:=Zi L;have ap:=pf 0;have ao:=pf 1;have am:=pf 2;have al:=pf 3;have ak:=pf 4;have ac:=pf 5;have X:=pf 6;have aj:=pf 7;have ai:=pf 8;have ah:=pf 9;have lg:=lt_of_cell z0;clear pf hg L;refine WZ.last rfl Kr Kr (λK hK=>?_);go_simp;refine hK.out _ _ ?_;clear hK K;have G:=Zm4 (.int .i64 id) (.int .i64 (st:Int)) (.int .i64 (fi:Int)) (.string sf) (.string (Yj cls)) (.slice A n c) (.string ⟨#[]⟩) (.string ⟨#[]⟩) (.string ⟨#[]⟩) (.slice B m e) HG.out.2;have ay:=bd.out;have af:=HK.out;have bg:=HG.out.1;have ax:=(Gs1.1 af.2).1;have ad:Zf w1 W:=I.1;have z:Hid (Hq w V M ⟨idx,id,cls,pos,st,fi,sf⟩ J rz g A n c B m e ⟨#[]⟩ ⟨#[]⟩ ⟨#[]⟩ _):=⟨G.2.heap (ad.heap af.1 (λe=>e)) Om,G.2.heap (ad.heap af.2 (λe=>e)) Om,G.1,(Z5 HX.out ad).trans G.2 (λk hk q=>by have:=HX.out.size;omega),ay.1,Om,Om,Om⟩;clear G ay af bg ax ad z0 z1 z2 z3 z4 z5 z6 z7 z8 z9 ap ao am al ak ac X aj ai ah lg HG HW HK bd aw hS I HX;generalize World.setCell _ ⟨g,9,none⟩ _=W2 at *;go_step;go_step;refine wp_seq_k λK hK=>?_
    go_cut [] from 20 to 24 (λwr=>∃ A n c,Hid (Hq w V M ⟨idx,id,cls,pos,st,fi,sf⟩ J rz g A n c B m e ⟨#[]⟩ ⟨#[]⟩ ⟨#[]⟩ wr))
    case first =>
      have z5:=cell_of z.out.2.2.1 5 _ rfl;have ac:=Zi z.out.2.2.1 5;have lg:=lt_of_cell z5;rcases A with _|A
      · obtain⟨rfl,rfl⟩:=av rfl
        have hq:=ag.out W2 none 0 0;go_wp2_with fail
        go_meet
        case rel=>exact⟨_,_,_,Hq.ext (Hq.put z.out 5 _ rfl) ((Fl _).alloc _)⟩
      · clear av
        have hq:=ag.out W2 (some A) n c;go_wp2_with fail
        go_meet
        case rel=>exact⟨_,_,_,z⟩
    case rest =>
    clear z av;obtain⟨A',n',c',z⟩:=hcut;generalize wc=W3 at *;go_step;refine wp_seq_k λK2 bk=>?_
    go_cut [] from 25 to 29 (λwr=>∃ B m e,Hid (Hq w V M ⟨idx,id,cls,pos,st,fi,sf⟩ J rz g A' n' c' B m e ⟨#[]⟩ ⟨#[]⟩ ⟨#[]⟩ wr))
    case first =>
      have z5:=cell_of z.out.2.2.1 9 _ rfl;have ac:=Zi z.out.2.2.1 9;have lg:=lt_of_cell z5;rcases B with _|B
      · obtain⟨rfl,rfl⟩:=au rfl
        have hq:=ag.out W3 none 0 0;go_wp2_with fail
        go_meet
        case rel=>exact⟨_,_,_,Hq.ext (Hq.put z.out 9 _ rfl) ((Fl _).alloc _)⟩
      · clear au
        have hq:=ag.out W3 (some B) m e;go_wp2_with fail
        go_meet
        case rel=>exact⟨_,_,_,z⟩
    case rest =>
    clear z au;obtain⟨B',m',e',z⟩:=hcut;generalize wc=W4 at *;go_step;obtain⟨b0,b1,b2,b3,b4,b5,b6,b7,b8,lb⟩:=L5 z.out.1;have C:=Hd (C1.out W4 z.out.2.2.2.1)
    go_upto_region 7 with (first
      | (go_at_call 73;refine C.out.mono ?_;rintro e w5 ⟨rfl,Z⟩;have HH:=Hd (Hq.ext z.out Z);have z6:=cell_of HH.out.2.2.1 6 _ rfl;have X:=Zi HH.out.2.2.1 6;have lg:=lt_of_cell z6)
      | fail)
    have aa:Hid (Hq w V M ⟨idx,id,cls,pos,st,fi,sf⟩ J rz g A' n' c' B' m' e' (p1.getD ⟨#[]⟩) ⟨#[]⟩ ⟨#[]⟩ _):=Hq.put HH.out 6 _ rfl;clear b0 b1 b2 b3 b4 b5 b6 b7 b8 lb C z HH z6 X lg Z;generalize World.setCell _ ⟨g,6,none⟩ _=W5 at *;have z:=aa;clear aa;obtain⟨b0,b1,b2,b3,b4,b5,b6,b7,b8,lb⟩:=L5 z.out.1;have C:=Hd (C2.out W5 z.out.2.2.2.1)
    go_upto_region 8 with (first
      | (go_at_call 74;refine C.out.mono ?_;rintro e w5 ⟨rfl,Z⟩;have HH:=Hd (Hq.ext z.out Z);have z6:=cell_of HH.out.2.2.1 7 _ rfl;have X:=Zi HH.out.2.2.1 7;have lg:=lt_of_cell z6)
      | fail)
    have aa:Hid (Hq w V M ⟨idx,id,cls,pos,st,fi,sf⟩ J rz g A' n' c' B' m' e' (p1.getD ⟨#[]⟩) (p2.getD ⟨#[]⟩) ⟨#[]⟩ _):=Hq.put HH.out 7 _ rfl;clear b0 b1 b2 b3 b4 b5 b6 b7 b8 lb C z HH z6 X lg Z;generalize World.setCell _ ⟨g,7,none⟩ _=W6 at *;have z:=aa;clear aa;obtain⟨b0,b1,b2,b3,b4,b5,b6,b7,b8,lb⟩:=L5 z.out.1;have C:=Hd (C3.out W6 z.out.2.2.2.1)
    go_upto_region 9 with (first
      | (go_at_call 75;refine C.out.mono ?_;rintro e w5 ⟨rfl,Z⟩;have HH:=Hd (Hq.ext z.out Z);have z6:=cell_of HH.out.2.2.1 8 _ rfl;have X:=Zi HH.out.2.2.1 8;have lg:=lt_of_cell z6)
      | fail)
    have aa:Hid (Hq w V M ⟨idx,id,cls,pos,st,fi,sf⟩ J rz g A' n' c' B' m' e' (p1.getD ⟨#[]⟩) (p2.getD ⟨#[]⟩) (p3.getD ⟨#[]⟩) _):=Hq.put HH.out 8 _ rfl;clear b0 b1 b2 b3 b4 b5 b6 b7 b8 lb C z HH z6 X lg Z;generalize World.setCell _ ⟨g,8,none⟩ _=W7 at *;have z:=aa;clear aa;have y0:=cell_of z.out.2.2.1 0 _ rfl;have z0:=cell_of z.out.2.1 0 _ rfl;have ap:=Zi z.out.2.1 0;have y1:=cell_of z.out.2.2.1 1 _ rfl;have z1:=cell_of z.out.2.1 1 _ rfl;have ao:=Zi z.out.2.1 1;have y2:=cell_of z.out.2.2.1 2 _ rfl;have z2:=cell_of z.out.2.1 2 _ rfl;have am:=Zi z.out.2.1 2;have y3:=cell_of z.out.2.2.1 3 _ rfl;have z3:=cell_of z.out.2.1 3 _ rfl;have al:=Zi z.out.2.1 3;have y4:=cell_of z.out.2.2.1 4 _ rfl;have z4:=cell_of z.out.2.1 4 _ rfl;have ak:=Zi z.out.2.1 4;have y5:=cell_of z.out.2.2.1 5 _ rfl;have z5:=cell_of z.out.2.1 5 _ rfl;have ac:=Zi z.out.2.1 5;have y6:=cell_of z.out.2.2.1 6 _ rfl;have z6:=cell_of z.out.2.1 6 _ rfl;have X:=Zi z.out.2.1 6;have y7:=cell_of z.out.2.2.1 7 _ rfl;have z7:=cell_of z.out.2.1 7 _ rfl;have aj:=Zi z.out.2.1 7;have y8:=cell_of z.out.2.2.1 8 _ rfl;have z8:=cell_of z.out.2.1 8 _ rfl;have ai:=Zi z.out.2.1 8;have y9:=cell_of z.out.2.2.1 9 _ rfl;have z9:=cell_of z.out.2.1 9 _ rfl;have ah:=Zi z.out.2.1 9;have ly:=lt_of_cell y0;have lz:=lt_of_cell z0;go_wp2_with fail
    have G:=Zm4 (.int .i64 id) (.int .i64 (st:Int)) (.int .i64 (fi:Int)) (.string sf) (.string (Yj cls)) (.slice A' n' c') (.string (p1.getD ⟨#[]⟩)) (.string (p2.getD ⟨#[]⟩)) (.string (p3.getD ⟨#[]⟩)) (.slice B' m' e') z.out.2.1;have XE:Zf w _:=z.out.2.2.2.1.trans G.2 (λk hk q=>by have:=z.out.2.2.2.2;omega);have G:=G.1;clear y0 z0 ap y1 z1 ao y2 z2 am y3 z3 al y4 z4 ak y5 z5 ac y6 z6 X y7 z7 aj y8 z8 ai y9 z9 ah;clear ly lz z;generalize World.setCell _ ⟨rz,9,none⟩ _=W8 at *;have z0:=cell_of G 0 _ rfl;have z1:=cell_of G 1 _ rfl;have z2:=cell_of G 2 _ rfl;have z3:=cell_of G 3 _ rfl;have z4:=cell_of G 4 _ rfl;have z5:=cell_of G 5 _ rfl;have z6:=cell_of G 6 _ rfl;have z7:=cell_of G 7 _ rfl;have z8:=cell_of G 8 _ rfl;have z9:=cell_of G 9 _ rfl;clear G;refine bodyPost_ret (by simp[results,Tryz.results81,z0,z1,z2,z3,z4,z5,z6,z7,z8,z9,go_sem];try rfl) rfl ?_;exact⟨⟨_,rfl,_,_,_,_,_,_,rfl⟩,XE⟩
end
end Go.Proofs.YtlfoalomaofejaaGreatDoor
