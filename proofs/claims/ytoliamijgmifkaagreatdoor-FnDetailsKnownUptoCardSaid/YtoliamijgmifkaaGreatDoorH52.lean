/- Insertion sort of a whole row: -/
import Derived.Deep.DeepBigQuietO
import Derived.Test.YtoliamijgmifkaaGreatDoorH31
import Derived.Test.YtoliamijgmifkaaGreatDoorH37
set_option linter.all false
set_option maxRecDepth 100000
set_option maxHeartbeats 4000000
section
namespace SS
open Go.Sort
theorem Q9{α:Type}[Inhabited α]{lt:α->α->Bool}{tag:α->Nat}(hL:SWO lt)(d:Array α)(ht:∀ i,i<d.size->tag d[i]! = i):(insertionSort lt d 0 d.size).toList=Z5 lt d.toList:=by
 have M:=Xw (tag:=tag) hL d 0 d.size (Nat.zero_le _) (Nl _) (λx y _ h1 h2=>by rw[ht x Om,ht y h2];exact h1);refine Tp.stable (tag:=tag) (n:=d.size) (bs:=d.size) hL ⟨M.1,λx hx=>?_⟩ rfl (Nl _) ht
 have h0:x=0:=by
  rcases Nat.eq_zero_or_pos x with h|h
  ·exact h
  ·have:=Nat.mul_le_mul_right d.size h;omega
 subst h0;rw[(Om:min (0*d.size+d.size) d.size=d.size),Nat.zero_mul];exact⟨M.2,permIn_all d _ 0 d.size (λu=>0<=tag u/\tag u<d.size) (Nl _) M.1 (λi _ h2=>by rw[ht i h2];exact⟨Nat.zero_le _,h2⟩)⟩
end SS
end
namespace Go.Proofs.YtoliamijgmifkaaGreatDoor
section
open Go.Shelf Go.RowKit Go.Lib Go.Sort SS
theorem Ek{w:World}{base sz n g:Nat}{e:TypeId}{v:Value}{xs:List Value}(h:w.ownsRow base e sz v n xs)(hg:v.ownBlock=some g):base<=g:=by
 obtain⟨_,⟨rfl,_⟩|⟨g',cap,cur,rfl,hb,_⟩⟩:=h
 ·cases hg
 ·have:g'=g:=by simpa [Value.ownBlock] using hg
  omega
theorem Zc3{w:World}{base sz n:Nat}{e:TypeId}{v:Value}{xs:List Value}(h:w.ownsRow base e sz v n xs):∃ A c,v=.slice A n c:=by
 obtain⟨_,⟨rfl,rfl⟩|⟨g,cap,cur,rfl,_⟩⟩:=h
 ·exact⟨_,_,rfl⟩
 ·exact⟨_,_,rfl⟩
theorem Mn(w:World)(o:Obj)(T k:Nat):((w.alloc o).alloc (.cells #[] T)).ownsRow w.heap.size T k (.slice (some ⟨w.heap.size+1,0,none⟩) 0 0) 0 []:=by
 have:=World.ownsRow_made (base:=w.heap.size) (w.alloc o) (#[]:Array Value) (e:=T) (size:=k) 0 (Nt (Nat.le_succ _) (Nat.le_of_eq (Za w o).symm)) (by unfold maxLen;omega) (by simp);rwa[Za]at this
structure IPw(P:Program)(k:Nat):Prop where
 base:SPw P k
 tT:P.underlying 45=Tryz.prog.underlying 45
 iT:P.info? 45=Tryz.prog.info? 45
 hk:Hid (k=6)
 t9:P.underlying 9=some .string
 a9:∀ w,(isAgg 9).run P w=.ok false w
 z9:∀ w,(Go.sizeOf 9).run P w=.ok 1 w
 tD:P.underlying 30=Tryz.prog.underlying 30
 aD:∀ w,(isAgg 30).run P w=.ok true w
 zD:∀ w,(Go.sizeOf 30).run P w=.ok 11 w
theorem Zqf:IPw Tryz.prog 6:=⟨sp_w,rfl,rfl,rfl,Kr,by intro w;kernel_rfl,by intro w;kernel_rfl,rfl,by intro w;kernel_rfl,by intro w;kernel_rfl⟩
theorem Zo0{P:Program}{k:Nat}(L:IPw P k)(F:P.funcs[14]?=some Tryz.f14){α:Type}[Inhabited α](enc:α->List Value)(key:α->ByteArray)(hk:∀ x,(enc x).length=k)(h1:∀ x,∀ v∈enc x,v.oneCell'=true)(h0:∀ x,(enc x)[0]?=some (.string (key x)))
  (d0:Array α) (A:Option Addr) (n c:Nat) (w:World) (hn:n=d0.size) (hA:A=none->n=0/\c=0) (hc:∀ a,A=some a->∀ j u,(d0.toList.flatMap enc)[j]?=some u->w.cell? (a.add j)=some u) (hsz:n<=1000000) (v201 v202 v203 v204 v205 v206 v207 v208 v209 v210:Value) :
  Calls P 14 #[.agg #[.slice A n c,v201,v202,v203,v204,v205,v206,v207,v208,v209,v210]] w λe w'=>∃ v,e=.returned v/\w'.ownsRow w.heap.size 45 k v n ((insertionSort (λx y=>Op.bytesLess (key x).toList (key y).toList) d0 0 n).toList.flatMap enc)/\Zg w w':=by
 have mixed:=L.base.mixed;have t0:=L.base.t0;have a0:=L.base.a0;have z0:=L.base.z0;have v0:=L.base.v0;have t3:=L.base.t3;have a3:=L.base.a3;have z3:=L.base.z3;have v3:=L.base.v3;have t4:=L.base.t4;have a4:=L.base.a4;have z4:=L.base.z4;have v4:=L.base.v4;have tS:=L.base.tS;have aS:=L.base.aS;have zS:=L.base.zS;have vS:=L.base.vS;have aE:=L.base.aE;have zE:=L.base.zE;have t9:=L.t9;have a9:=L.a9;have z9:=L.z9;have tT:=L.tT.trans Tryz.underlying45;have tD:=L.tD.trans Tryz.underlying30;have aD:=L.aD;have zD:=L.zD;have uS:=run_underlying tS;have uT:=run_underlying tT;have uD:=run_underlying tD;obtain⟨ie,hie,z,hz,hs,hb,hzs⟩:=Nk;rw[<- L.iT]at hie;rw[<- L.hk.out]at hs hzs;have hkp:0<k:=by have:=L.hk.out;omega
 have hlen:(d0.toList.flatMap enc).length=n*k:=by
  have:=V9 hk d0;rw[<- this,Array.length_toList,size_flatK,hn]
 have HL:=Hd (Ai1 hlen (Ai1 hA hc));have HK:=Hd (Ai1 hk h1);have H0:=Hd h0
 have h1f:∀ u∈d0.toList.flatMap enc,u.oneCell'=true:=λu hu=>by
  obtain⟨x,_,hx⟩:=List.mem_flatMap.1 hu;exact h1 x u hx
 have H1F:=Hd h1f;have HNN:=Hd hn;clear hlen hA hc hk h1 h1f h0 L hn;have heq:∀ (W:World) (B:Option Addr) (l k:Nat),(binOp .eql 22 (.slice B l k) (.slice none 0 0)).run P W=.ok (.bool B.isNone) W:=λW B l k=>Go.run_eql_slice_nil W _ _ B l k tS
 rcases Nat.eq_zero_or_pos n with hn0|hn0
 ·subst hn0;have hnews:d0.toList.flatMap enc=[]:=List.eq_nil_of_length_eq_zero (by rw[HL.out.1,Nat.zero_mul])
  have hins:(insertionSort (λx y=>Op.bytesLess (key x).toList (key y).toList) d0 0 0).toList.flatMap enc=[]:=by
   show (insOuter (λx y=>Op.bytesLess (key x).toList (key y).toList) 0 0 (0+1) d0).toList.flatMap enc=[];rw[insOuter_stop _ _ _ _ _ Om];exact hnews
  rw[hins];have HNW:=Hd hnews;clear hins hnews
  cases A with
  | none =>
   obtain rfl:=(HL.out.2.1 rfl).2;go_enter F,Tryz.ntmps14
   go_upto_region 2 with (first
    | (at_builtin;refine Tf rfl _ _ 22 rfl w.heap.size 45 ie k tS hie _ 0 [] rfl (Mn w _ 45 k) rfl ?_)
    | fail)
   generalize hw1:World.alloc _ (.cells #[] 45)=w1;have hown:w1.ownsRow w.heap.size 45 k (.slice (some ⟨w.heap.size+1,0,none⟩) 0 0) 0 []:=hw1▸Mn w _ 45 k;have X1:Zg w w1:=hw1▸((Fl w).alloc _).alloc _;clear hw1;have HOW:=Hd hown;have HX1:=Hd X1;clear hown X1;go_wp2_with fail
   go_loopg [12] 0 (λg1 v12 wr=>v12=.int .i64 0/\w1=wr)
   case atStart=>exact⟨rfl,rfl⟩
   case round =>
    obtain⟨rfl,e⟩:=hrel;subst e;go_wp2_with fail
    go_ret;exact⟨_,rfl,HOW.out,HX1.out⟩
  | some a =>
   go_enter F,Tryz.ntmps14
   go_upto_region 2 with (first
    | (at_builtin;refine wpList_append_own_at _ rfl _ _ 22 rfl w.heap.size 45 ie z k 88 tS hie hz hs hb hzs hkp _ 0 [] rfl (Mn w _ 45 k) a 0 c [] rfl (by simp) (λj u hu=>by simp at hu) (λu hu=>by simp at hu) (by unfold maxLen;omega) Om (by simp only[Za];omega) ?_;intro v' w1 hown hgrow hnil' hat)
    | fail)
   rw[Nat.zero_add,List.nil_append]at hown
   have X1:Zg w w1:=(((Fe w).alloc _).alloc _).grown hgrow (λj hj hlt=>by
    injection hj with hj
    rw[<- hj]at hlt
    exact absurd hlt (by show ¬ w.heap.size+1<w.heap.size;omega))
   obtain⟨A',c',rfl⟩:=Zc3 hown;clear hgrow hnil' hat;have HOW:=Hd hown;have HX1:=Hd X1;clear hown X1;go_wp2_with fail
   go_loopg [12] 0 (λg1 v12 wr=>v12=.int .i64 0/\w1=wr)
   case atStart=>exact⟨rfl,rfl⟩
   case round =>
    obtain⟨rfl,e⟩:=hrel;subst e;go_wp2_with fail
    go_ret;exact⟨_,rfl,HOW.out,HX1.out⟩
 ·cases A with
  | none=>exact absurd (HL.out.2.1 rfl).1 Om
  | some a =>
   have hnk:0<n*k:=Nat.mul_pos hn0 hkp;have HNK:=Hd hnk;clear hnk
   have hs0:insOuter (λx y=>Op.bytesLess (key x).toList (key y).toList) 0 n 0 d0=insertionSort (λx y=>Op.bytesLess (key x).toList (key y).toList) d0 0 n:=by
    rw[insOuter_go _ _ _ _ _ hn0,insInner_stop _ _ _ _ (.inl (Nl _))];rfl
   have HS0:=Hd hs0;clear hs0;obtain⟨S0,hS0⟩:∃ S,S=insertionSort (λx y=>Op.bytesLess (key x).toList (key y).toList) d0 0 n:=⟨_,rfl⟩;rw[<- hS0]at HS0⊢;clear hS0;go_enter F,Tryz.ntmps14
   go_upto_region 2 with (first
    | (at_builtin;refine wpList_append_own_at _ rfl _ _ 22 rfl w.heap.size 45 ie z k 88 tS hie hz hs hb hzs hkp _ 0 [] rfl (Mn w _ 45 k) a n c (d0.toList.flatMap enc) rfl HL.out.1 (λj u hu=>(((Fe w).alloc _).alloc _).cell (HL.out.2.2 a rfl j u hu) id) H1F.out (by unfold maxLen;omega) Om (by simp only[Za];omega) ?_;intro v' w1 hown hgrow hnil' hat)
    | fail)
   rw[Nat.zero_add,List.nil_append]at hown
   have X1:Zg w w1:=(((Fe w).alloc _).alloc _).grown hgrow (λj hj hlt=>by
    injection hj with hj
    rw[<- hj]at hlt
    exact absurd hlt (by show ¬ w.heap.size+1<w.heap.size;omega))
   obtain⟨g,c',e',_,hg⟩:=Xq hown 0 HNK.out;obtain⟨off,hoff⟩:∃ o,o=0:=⟨_,rfl⟩;have hb1:=Ek hown hg
   have R:RowK enc k w1 g off d0:=by
    rw[hoff];exact Nx (e'▸hown) HK.out.1 HK.out.2 rfl HNN.out.symm
   have e2:v'=.slice (some ⟨g,off,none⟩) n c':=(by rw[e',hoff]);have HOW:=Hd (Ai1 (e'▸hown:w1.ownsRow w.heap.size 45 k (.slice (some ⟨g,0,none⟩) n c') n (d0.toList.flatMap enc)) (Ai1 hb1 hoff));subst e2;have HX1:=Hd X1;have RR:Aside _:=R;have HST:=Hd (SWK.start R.hH);clear hown hgrow hnil' hat X1 e' hg hb1 R hoff HL H1F HNK;have hlt0:∀ x:Nat,(0:Int)<=(x:Int):=λx=>by omega
   go_wp2_with fail
   go_loopg [12] n (λg1 v12 wr=>∃ (i:Nat) (dk:Array α),v12=.int .i64 (i:Int)/\i<=n/\n<=i+g1/\dk.size=n/\Hid (SWK enc k w1 g off dk wr)/\Hid (insOuter (λx y=>Op.bytesLess (key x).toList (key y).toList) 0 n i dk=S0))
   case atStart=>exact⟨0,d0,rfl,Om,Om,HNN.out.symm,HST,HS0⟩
   case round =>
    obtain⟨i,dk,rfl,hi,hg1,hsk,HW,HO⟩:=hrel;by_cases hlt:i<n
    ·have hltz:(i:Int)<(n:Int):=Om;go_wp2_with fail
     go_loopg [5] i (λg2 v5 wr2=>∃ (j:Nat) (dj:Array α),v5=.int .i64 (j:Int)/\j<=i/\j<=g2/\dj.size=n/\Hid (SWK enc k w1 g off dj wr2)/\Hid (insInner (λx y=>Op.bytesLess (key x).toList (key y).toList) 0 j dj=insInner (λx y=>Op.bytesLess (key x).toList (key y).toList) 0 i dk))
     case atStart=>exact⟨i,dk,rfl,Nl _,Nl _,hsk,HW,rfl⟩
     case round =>
      obtain⟨j,dj,rfl,hji,hg2,hsj,HV,HI⟩:=hrel
      have out:(j<=0\/(λx y=>Op.bytesLess (key x).toList (key y).toList) dj[j]! dj[j-1]! = false)->Hid (insOuter (λx y=>Op.bytesLess (key x).toList (key y).toList) 0 n (i+1) dj=S0):=λhs=>by
       show _=_;rw[<- HO.out,insOuter_go _ _ _ _ _ hlt,<- HI.out,insInner_stop _ _ _ _ hs]
      have OUT:Aside _:=out;clear out;rcases j with _|jp
      ·have hjz:decide (((0:Nat):Int) > 0)=false:=(by decide);have hjz2:decide ((0:Int)<((0:Nat):Int))=false:=(by decide);go_upto_region 6 with fail
       go_big_quiet_o (fail)
       go_wp2_with fail
       go_roundg (n-(i+1))
       case measure=>omega
       case rel=>exact⟨i+1,dj,by go_num,Om,Om,hsj,HV.out.drewN _,OUT.out (.inl (Nl _))⟩
      ·have hjaz':(0:Int)<((jp+1:Nat):Int):=Om;obtain⟨xj,hxj⟩:∃ x,dj[jp+1]! = x:=⟨_,rfl⟩;obtain⟨xp,hxp⟩:∃ x,dj[jp]! = x:=⟨_,rfl⟩;have hwp:IntKind.i64.wrap (jp:Int)=(jp:Int):=by rw[IntKind.wrap_i64];omega
       have jz:((jp+1:Nat):Int)<(n:Int):=Om;have jz1:(jp:Int)<(n:Int):=Om;have p0:(0:Int)<=((jp+1:Nat):Int):=Om;have hHd:HoldsK enc k wr g off dj:=HV.out.holds RR.out.hblk RR.out.hH (by rw[hsj,HNN.out])
       have q1:wr.cell? ⟨g,off+(jp+1)*k,none⟩=some (.string (key xj)):=by
        have:=HoldsK.cells hHd HK.out.1 (i:=jp+1) Om 0 _ (by rw[hxj];exact H0.out xj);rwa[Addr.add_zero']at this
       have q2:wr.cell? ⟨g,off+jp*k,none⟩=some (.string (key xp)):=by
        have:=HoldsK.cells hHd HK.out.1 (i:=jp) Om 0 _ (by rw[hxp];exact H0.out xp);rwa[Addr.add_zero']at this
       have lg:=lt_of_cell q1;clear hHd
       cases hd:Op.bytesLess (key xj).toList (key xp).toList with
       | false =>
        go_upto_region 6 with fail
        go_big_quiet_o (fail)
        go_wp2_with fail
        go_roundg (n-(i+1))
        case measure=>omega
        case rel=>exact⟨i+1,dj,by go_num,Om,Om,hsj,HV.out.drewN _,OUT.out (.inr (by simp only[Nat.add_sub_cancel];rw[hxj,hxp];exact hd))⟩
       | true =>
        go_upto_region 6 with fail
        go_big_quiet_o (fail)
        go_wp2_with fail
        generalize hwq:World.drewN wr _=wq;have HQ:=Hd (hwq▸HV.out.drewN _:SWK enc k w1 g off dj wq);clear hwq q1 q2;have x1:jp+1<dj.size:=Om;have x2:jp<dj.size:=Om;have hs1:dj.size=d0.size:=hsj.trans HNN.out;obtain⟨ex,hex⟩:∃ c,enc dj[jp+1]! = c:=⟨_,rfl⟩;obtain⟨ey,hey⟩:∃ c,enc dj[jp]! = c:=⟨_,rfl⟩;have l1:=HQ.out.ld1 RR.out hs1 P jp x2;have l2:=HQ.out.ld1 RR.out hs1 P (jp+1) x1;have s1:=HQ.out.st1 RR.out hs1 P (jp+1) x1 dj[jp]!;have s2:=HQ.out.st2 RR.out hs1 P (jp+1) jp x1 x2 dj[jp]! dj[jp+1]!;have HN:=Hd (HQ.out.swapped RR.out (jp+1) jp x1 x2);have y1:ex.length=k:=by rw[<- hex];exact RR.out.hk _
        have y2:ey.length=k:=by rw[<- hey];exact RR.out.hk _
        rw[hex]at l2 s2;rw[hey]at l1 s1 s2;have CC:=Hd (Ai1 hex hey);have HD:=Hd hd;clear hex hey hs1 hd
        go_big_region_o
        all_goals go_wp2_with fail
        go_roundg jp
        case measure=>omega
        case rel =>
         refine⟨jp,swp dj (jp+1) jp,by first|rfl|go_num|(congr 1;omega),Om,Nl _,by rw[size_swp];exact hsj,by rw[CC.out.1,CC.out.2]at HN;exact HN,(show Hid _ from ?_)⟩;show _=_;have:=insInner_go (λx y=>Op.bytesLess (key x).toList (key y).toList) 0 (jp+1) dj (Nat.succ_pos _) (by simp only[Nat.add_sub_cancel];rw[hxj,hxp];exact HD.out);simp only[Nat.add_sub_cancel]at this;rw[<- HI.out,this]
    ·have hltz:¬ (i:Int)<(n:Int):=Om;go_wp2_with fail
     go_ret;have e:i=n:=Om;have e3:dk=S0:=(by rw[<- HO.out,insOuter_stop _ _ _ _ _ hlt]);subst e3;have hz:=HOW.out.2.2;subst hz;exact⟨_,rfl,K9 HOW.out.1 HK.out.1 hsk HW.out,HX1.out.trans (Fi HW.out) (λj hj q=>by have:=HOW.out.2.1;omega)⟩
end
section
open Go.Shelf Go.RowKit Go.Lib Go.Sort SS
theorem Em{w:World}{base sz n g:Nat}{e:TypeId}{v:Value}{xs:List Value}(h:w.ownsRow base e sz v n xs)(hg:v.ownBlock=some g):base<=g:=by
 obtain⟨_,⟨rfl,_⟩|⟨g',cap,cur,rfl,hb,_⟩⟩:=h
 ·cases hg
 ·have:g'=g:=by simpa [Value.ownBlock] using hg
  omega
theorem Zc4{w:World}{base sz n:Nat}{e:TypeId}{v:Value}{xs:List Value}(h:w.ownsRow base e sz v n xs):∃ A c,v=.slice A n c:=by
 obtain⟨_,⟨rfl,rfl⟩|⟨g,cap,cur,rfl,_⟩⟩:=h
 ·exact⟨_,_,rfl⟩
 ·exact⟨_,_,rfl⟩
theorem Mo(w:World)(o:Obj)(T k:Nat):((w.alloc o).alloc (.cells #[] T)).ownsRow w.heap.size T k (.slice (some ⟨w.heap.size+1,0,none⟩) 0 0) 0 []:=by
 have:=World.ownsRow_made (base:=w.heap.size) (w.alloc o) (#[]:Array Value) (e:=T) (size:=k) 0 (Nt (Nat.le_succ _) (Nat.le_of_eq (Za w o).symm)) (by unfold maxLen;omega) (by simp);rwa[Za]at this
structure IPu(P:Program)(k:Nat):Prop where
 base:SPu P k
 tT:P.underlying 61=Tryz.prog.underlying 61
 iT:P.info? 61=Tryz.prog.info? 61
 hk:Hid (k=5)
 t9:P.underlying 9=some .string
 a9:∀ w,(isAgg 9).run P w=.ok false w
 z9:∀ w,(Go.sizeOf 9).run P w=.ok 1 w
 tD:P.underlying 30=Tryz.prog.underlying 30
 aD:∀ w,(isAgg 30).run P w=.ok true w
 zD:∀ w,(Go.sizeOf 30).run P w=.ok 11 w
theorem Zqg:IPu Tryz.prog 5:=⟨sp_u,rfl,rfl,rfl,Kr,by intro w;kernel_rfl,by intro w;kernel_rfl,rfl,by intro w;kernel_rfl,by intro w;kernel_rfl⟩
theorem Zo1{P:Program}{k:Nat}(L:IPu P k)(F:P.funcs[20]?=some Tryz.f20){α:Type}[Inhabited α](enc:α->List Value)(key:α->Int)(hk:∀ x,(enc x).length=k)(h1:∀ x,∀ v∈enc x,v.oneCell'=true)(h0:∀ x,(enc x)[0]?=some (.int .i64 (key x)))
  (d0:Array α) (A:Option Addr) (n c:Nat) (w:World) (hn:n=d0.size) (hA:A=none->n=0/\c=0) (hc:∀ a,A=some a->∀ j u,(d0.toList.flatMap enc)[j]?=some u->w.cell? (a.add j)=some u) (hsz:n<=1000000) (v200 v201 v202 v203 v204 v205 v207 v208 v209 v210:Value) :
  Calls P 20 #[.agg #[v200,v201,v202,v203,v204,v205,.slice A n c,v207,v208,v209,v210]] w λe w'=>∃ v,e=.returned v/\w'.ownsRow w.heap.size 61 k v n ((insertionSort (λx y=>decide (key x<key y)) d0 0 n).toList.flatMap enc)/\Zg w w':=by
 have mixed:=L.base.mixed;have t0:=L.base.t0;have a0:=L.base.a0;have z0:=L.base.z0;have v0:=L.base.v0;have t3:=L.base.t3;have a3:=L.base.a3;have z3:=L.base.z3;have v3:=L.base.v3;have t4:=L.base.t4;have a4:=L.base.a4;have z4:=L.base.z4;have v4:=L.base.v4;have tS:=L.base.tS;have aS:=L.base.aS;have zS:=L.base.zS;have vS:=L.base.vS;have aE:=L.base.aE;have zE:=L.base.zE;have t9:=L.t9;have a9:=L.a9;have z9:=L.z9;have tT:=L.tT.trans Tryz.underlying61;have tD:=L.tD.trans Tryz.underlying30;have aD:=L.aD;have zD:=L.zD;have uS:=run_underlying tS;have uT:=run_underlying tT;have uD:=run_underlying tD;obtain⟨ie,hie,z,hz,hs,hb,hzs⟩:=Mc;rw[<- L.iT]at hie;rw[<- L.hk.out]at hs hzs;have hkp:0<k:=by have:=L.hk.out;omega
 have hlen:(d0.toList.flatMap enc).length=n*k:=by
  have:=V9 hk d0;rw[<- this,Array.length_toList,size_flatK,hn]
 have HL:=Hd (Ai1 hlen (Ai1 hA hc));have HK:=Hd (Ai1 hk h1);have H0:=Hd h0
 have h1f:∀ u∈d0.toList.flatMap enc,u.oneCell'=true:=λu hu=>by
  obtain⟨x,_,hx⟩:=List.mem_flatMap.1 hu;exact h1 x u hx
 have H1F:=Hd h1f;have HNN:=Hd hn;clear hlen hA hc hk h1 h1f h0 L hn;have heq:∀ (W:World) (B:Option Addr) (l k:Nat),(binOp .eql 26 (.slice B l k) (.slice none 0 0)).run P W=.ok (.bool B.isNone) W:=λW B l k=>Go.run_eql_slice_nil W _ _ B l k tS
 rcases Nat.eq_zero_or_pos n with hn0|hn0
 ·subst hn0;have hnews:d0.toList.flatMap enc=[]:=List.eq_nil_of_length_eq_zero (by rw[HL.out.1,Nat.zero_mul])
  have hins:(insertionSort (λx y=>decide (key x<key y)) d0 0 0).toList.flatMap enc=[]:=by
   show (insOuter (λx y=>decide (key x<key y)) 0 0 (0+1) d0).toList.flatMap enc=[];rw[insOuter_stop _ _ _ _ _ Om];exact hnews
  rw[hins];have HNW:=Hd hnews;clear hins hnews
  cases A with
  | none =>
   obtain rfl:=(HL.out.2.1 rfl).2;go_enter F,Tryz.ntmps20
   go_upto_region 2 with (first
    | (at_builtin;refine Tf rfl _ _ 26 rfl w.heap.size 61 ie k tS hie _ 0 [] rfl (Mo w _ 61 k) rfl ?_)
    | fail)
   generalize hw1:World.alloc _ (.cells #[] 61)=w1;have hown:w1.ownsRow w.heap.size 61 k (.slice (some ⟨w.heap.size+1,0,none⟩) 0 0) 0 []:=hw1▸Mo w _ 61 k;have X1:Zg w w1:=hw1▸((Fl w).alloc _).alloc _;clear hw1;have HOW:=Hd hown;have HX1:=Hd X1;clear hown X1;go_wp2_with fail
   go_loopg [12] 0 (λg1 v12 wr=>v12=.int .i64 0/\w1=wr)
   case atStart=>exact⟨rfl,rfl⟩
   case round =>
    obtain⟨rfl,e⟩:=hrel;subst e;go_wp2_with fail
    go_ret;exact⟨_,rfl,HOW.out,HX1.out⟩
  | some a =>
   go_enter F,Tryz.ntmps20
   go_upto_region 2 with (first
    | (at_builtin;refine wpList_append_own_at _ rfl _ _ 26 rfl w.heap.size 61 ie z k 56 tS hie hz hs hb hzs hkp _ 0 [] rfl (Mo w _ 61 k) a 0 c [] rfl (by simp) (λj u hu=>by simp at hu) (λu hu=>by simp at hu) (by unfold maxLen;omega) Om (by simp only[Za];omega) ?_;intro v' w1 hown hgrow hnil' hat)
    | fail)
   rw[Nat.zero_add,List.nil_append]at hown
   have X1:Zg w w1:=(((Fe w).alloc _).alloc _).grown hgrow (λj hj hlt=>by
    injection hj with hj
    rw[<- hj]at hlt
    exact absurd hlt (by show ¬ w.heap.size+1<w.heap.size;omega))
   obtain⟨A',c',rfl⟩:=Zc4 hown;clear hgrow hnil' hat;have HOW:=Hd hown;have HX1:=Hd X1;clear hown X1;go_wp2_with fail
   go_loopg [12] 0 (λg1 v12 wr=>v12=.int .i64 0/\w1=wr)
   case atStart=>exact⟨rfl,rfl⟩
   case round =>
    obtain⟨rfl,e⟩:=hrel;subst e;go_wp2_with fail
    go_ret;exact⟨_,rfl,HOW.out,HX1.out⟩
 ·cases A with
  | none=>exact absurd (HL.out.2.1 rfl).1 Om
  | some a =>
   have hnk:0<n*k:=Nat.mul_pos hn0 hkp;have HNK:=Hd hnk;clear hnk
   have hs0:insOuter (λx y=>decide (key x<key y)) 0 n 0 d0=insertionSort (λx y=>decide (key x<key y)) d0 0 n:=by
    rw[insOuter_go _ _ _ _ _ hn0,insInner_stop _ _ _ _ (.inl (Nl _))];rfl
   have HS0:=Hd hs0;clear hs0;obtain⟨S0,hS0⟩:∃ S,S=insertionSort (λx y=>decide (key x<key y)) d0 0 n:=⟨_,rfl⟩;rw[<- hS0]at HS0⊢;clear hS0;go_enter F,Tryz.ntmps20
   go_upto_region 2 with (first
    | (at_builtin;refine wpList_append_own_at _ rfl _ _ 26 rfl w.heap.size 61 ie z k 56 tS hie hz hs hb hzs hkp _ 0 [] rfl (Mo w _ 61 k) a n c (d0.toList.flatMap enc) rfl HL.out.1 (λj u hu=>(((Fe w).alloc _).alloc _).cell (HL.out.2.2 a rfl j u hu) id) H1F.out (by unfold maxLen;omega) Om (by simp only[Za];omega) ?_;intro v' w1 hown hgrow hnil' hat)
    | fail)
   rw[Nat.zero_add,List.nil_append]at hown
   have X1:Zg w w1:=(((Fe w).alloc _).alloc _).grown hgrow (λj hj hlt=>by
    injection hj with hj
    rw[<- hj]at hlt
    exact absurd hlt (by show ¬ w.heap.size+1<w.heap.size;omega))
   obtain⟨g,c',e',_,hg⟩:=Xq hown 0 HNK.out;obtain⟨off,hoff⟩:∃ o,o=0:=⟨_,rfl⟩;have hb1:=Em hown hg
   have R:RowK enc k w1 g off d0:=by
    rw[hoff];exact Nx (e'▸hown) HK.out.1 HK.out.2 rfl HNN.out.symm
   have e2:v'=.slice (some ⟨g,off,none⟩) n c':=(by rw[e',hoff]);have HOW:=Hd (Ai1 (e'▸hown:w1.ownsRow w.heap.size 61 k (.slice (some ⟨g,0,none⟩) n c') n (d0.toList.flatMap enc)) (Ai1 hb1 hoff));subst e2;have HX1:=Hd X1;have RR:Aside _:=R;have HST:=Hd (SWK.start R.hH);clear hown hgrow hnil' hat X1 e' hg hb1 R hoff HL H1F HNK;have hlt0:∀ x:Nat,(0:Int)<=(x:Int):=λx=>by omega
   go_wp2_with fail
   go_loopg [12] n (λg1 v12 wr=>∃ (i:Nat) (dk:Array α),v12=.int .i64 (i:Int)/\i<=n/\n<=i+g1/\dk.size=n/\Hid (SWK enc k w1 g off dk wr)/\Hid (insOuter (λx y=>decide (key x<key y)) 0 n i dk=S0))
   case atStart=>exact⟨0,d0,rfl,Om,Om,HNN.out.symm,HST,HS0⟩
   case round =>
    obtain⟨i,dk,rfl,hi,hg1,hsk,HW,HO⟩:=hrel;by_cases hlt:i<n
    ·have hltz:(i:Int)<(n:Int):=Om;go_wp2_with fail
     go_loopg [5] i (λg2 v5 wr2=>∃ (j:Nat) (dj:Array α),v5=.int .i64 (j:Int)/\j<=i/\j<=g2/\dj.size=n/\Hid (SWK enc k w1 g off dj wr2)/\Hid (insInner (λx y=>decide (key x<key y)) 0 j dj=insInner (λx y=>decide (key x<key y)) 0 i dk))
     case atStart=>exact⟨i,dk,rfl,Nl _,Nl _,hsk,HW,rfl⟩
     case round =>
      obtain⟨j,dj,rfl,hji,hg2,hsj,HV,HI⟩:=hrel
      have out:(j<=0\/(λx y=>decide (key x<key y)) dj[j]! dj[j-1]! = false)->Hid (insOuter (λx y=>decide (key x<key y)) 0 n (i+1) dj=S0):=λhs=>by
       show _=_;rw[<- HO.out,insOuter_go _ _ _ _ _ hlt,<- HI.out,insInner_stop _ _ _ _ hs]
      have OUT:Aside _:=out;clear out;rcases j with _|jp
      ·have hjz:decide (((0:Nat):Int) > 0)=false:=(by decide);have hjz2:decide ((0:Int)<((0:Nat):Int))=false:=(by decide);go_upto_region 6 with fail
       go_big_quiet_o (fail)
       go_wp2_with fail
       go_roundg (n-(i+1))
       case measure=>omega
       case rel=>exact⟨i+1,dj,by go_num,Om,Om,hsj,HV.out.drewN _,OUT.out (.inl (Nl _))⟩
      ·have hjaz':(0:Int)<((jp+1:Nat):Int):=Om;obtain⟨xj,hxj⟩:∃ x,dj[jp+1]! = x:=⟨_,rfl⟩;obtain⟨xp,hxp⟩:∃ x,dj[jp]! = x:=⟨_,rfl⟩;have hwp:IntKind.i64.wrap (jp:Int)=(jp:Int):=by rw[IntKind.wrap_i64];omega
       have jz:((jp+1:Nat):Int)<(n:Int):=Om;have jz1:(jp:Int)<(n:Int):=Om;have p0:(0:Int)<=((jp+1:Nat):Int):=Om;have hHd:HoldsK enc k wr g off dj:=HV.out.holds RR.out.hblk RR.out.hH (by rw[hsj,HNN.out])
       have q1:wr.cell? ⟨g,off+(jp+1)*k,none⟩=some (.int .i64 (key xj)):=by
        have:=HoldsK.cells hHd HK.out.1 (i:=jp+1) Om 0 _ (by rw[hxj];exact H0.out xj);rwa[Addr.add_zero']at this
       have q2:wr.cell? ⟨g,off+jp*k,none⟩=some (.int .i64 (key xp)):=by
        have:=HoldsK.cells hHd HK.out.1 (i:=jp) Om 0 _ (by rw[hxp];exact H0.out xp);rwa[Addr.add_zero']at this
       have lg:=lt_of_cell q1;clear hHd
       cases hd:decide (key xj<key xp) with
       | false =>
        go_upto_region 6 with fail
        go_big_quiet_o (fail)
        go_wp2_with fail
        go_roundg (n-(i+1))
        case measure=>omega
        case rel=>exact⟨i+1,dj,by go_num,Om,Om,hsj,HV.out.drewN _,OUT.out (.inr (by simp only[Nat.add_sub_cancel];rw[hxj,hxp];exact hd))⟩
       | true =>
        go_upto_region 6 with fail
        go_big_quiet_o (fail)
        go_wp2_with fail
        generalize hwq:World.drewN wr _=wq;have HQ:=Hd (hwq▸HV.out.drewN _:SWK enc k w1 g off dj wq);clear hwq q1 q2;have x1:jp+1<dj.size:=Om;have x2:jp<dj.size:=Om;have hs1:dj.size=d0.size:=hsj.trans HNN.out;obtain⟨ex,hex⟩:∃ c,enc dj[jp+1]! = c:=⟨_,rfl⟩;obtain⟨ey,hey⟩:∃ c,enc dj[jp]! = c:=⟨_,rfl⟩;have l1:=HQ.out.ld1 RR.out hs1 P jp x2;have l2:=HQ.out.ld1 RR.out hs1 P (jp+1) x1;have s1:=HQ.out.st1 RR.out hs1 P (jp+1) x1 dj[jp]!;have s2:=HQ.out.st2 RR.out hs1 P (jp+1) jp x1 x2 dj[jp]! dj[jp+1]!;have HN:=Hd (HQ.out.swapped RR.out (jp+1) jp x1 x2);have y1:ex.length=k:=by rw[<- hex];exact RR.out.hk _
        have y2:ey.length=k:=by rw[<- hey];exact RR.out.hk _
        rw[hex]at l2 s2;rw[hey]at l1 s1 s2;have CC:=Hd (Ai1 hex hey);have HD:=Hd hd;clear hex hey hs1 hd
        go_big_region_o
        all_goals go_wp2_with fail
        go_roundg jp
        case measure=>omega
        case rel =>
         refine⟨jp,swp dj (jp+1) jp,by first|rfl|go_num|(congr 1;omega),Om,Nl _,by rw[size_swp];exact hsj,by rw[CC.out.1,CC.out.2]at HN;exact HN,(show Hid _ from ?_)⟩;show _=_;have:=insInner_go (λx y=>decide (key x<key y)) 0 (jp+1) dj (Nat.succ_pos _) (by simp only[Nat.add_sub_cancel];rw[hxj,hxp];exact HD.out);simp only[Nat.add_sub_cancel]at this;rw[<- HI.out,this]
    ·have hltz:¬ (i:Int)<(n:Int):=Om;go_wp2_with fail
     go_ret;have e:i=n:=Om;have e3:dk=S0:=(by rw[<- HO.out,insOuter_stop _ _ _ _ _ hlt]);subst e3;have hz:=HOW.out.2.2;subst hz;exact⟨_,rfl,K9 HOW.out.1 HK.out.1 hsk HW.out,HX1.out.trans (Fi HW.out) (λj hj q=>by have:=HOW.out.2.1;omega)⟩
end
section
open Go.Shelf Go.RowKit Go.Lib Go.Sort SS DT
theorem B8{τ:Type}{d:Ty τ}{kv:τ->Value}{k:Nat}(hsz:d.sz=k+1){w:World}{B n:Nat}{T:TypeId}{v:Value}(es:List (El τ k))(h:w.ownsRow B T (k+1) v n (es.flatMap (El.enc kv)))(hn:es.length=n)(hm:n<=9223372036854775807){O:Nat->Prop}(hr:∀ x∈es,d.R w O x.key (x.enc kv)) :
  ∃ A c,v=.slice A n c/\d.At w (λ_=>True) A (es.map El.key):=by
 obtain⟨A,c,rfl⟩:=Zn h;refine⟨A,c,rfl,by rw[List.length_map,hn];exact hm,?_⟩;rcases es with _|⟨e0,es⟩
 ·exact .inl rfl
 ·have hp:0<n*(k+1):=Nat.mul_pos (by rw[<- hn];exact Nat.succ_pos _) (Nat.succ_pos _);obtain⟨g,c',e,h0,_⟩:=Xq h 0 hp;simp only[Value.slice.injEq,true_and]at e;obtain⟨rfl,rfl⟩:=e
  have hget:∀ j,j<n*(k+1)->w.cell? ⟨g,j,none⟩=((e0::es).flatMap (El.enc kv))[j]?:=λj hj=>by
   obtain⟨g',c',e,q,_⟩:=Xq h j hj;simp only[Value.slice.injEq,Option.some.injEq,Addr.mk.injEq,true_and,and_true]at e;obtain⟨rfl,rfl⟩:=e;exact q
  have hlt:g<w.heap.size:=by
   have q:=hget 0 hp;rw[Ge (by rw[J4,hn];exact hp)]at q;exact lt_of_cell q
  refine .inr ⟨g,0,rfl,trivial,hlt,λi hi=>?_⟩;have hi':i<(e0::es).length:=by simpa using hi
  refine⟨((e0::es)[i]).enc kv,by rw[List.getElem_map];exact d.mono (λ_ _ _=>trivial) (hr _ (List.getElem_mem hi')),λj hj=>?_⟩;rw[El.enc_len]at hj
  have hb:i*(k+1)+j<n*(k+1):=by
   have:=Nat.mul_le_mul_right (k+1) ((Om:i+1<=n));rw[Nat.add_mul,Nat.one_mul]at this;omega
  rw[Nat.zero_add,hsz,hget _ hb,flat_get (El.enc kv) (k+1) (El.enc_len kv) _ i j hi' hj,Ge]
theorem Znr(a b:ByteArray):Op.bytesLess a.toList b.toList=Ve a b:=by
 rw[Bool.eq_iff_iff,Er,Xe,ByteArray.toList_eq,ByteArray.toList_eq]
theorem Zgn{τ:Type}{d:Ty τ}{kv:τ->Value}{k:Nat}{w:World}{O:Nat->Prop}{xs:List τ}{ds:List (El τ k)}[Inhabited τ](h:Els d kv k w O xs ds):∀ i,i<ds.toArray.size->El.tag ds.toArray[i]! = i:=λi hi=>by
 rw[getElem!_pos _ i hi,List.getElem_toArray];exact h.tag i (by simpa using hi)
abbrev Zfm(g:GUnk):Value:=.int .i64 g.cls
theorem Zds{w:World}{O:Nat->Prop}{d:Zj}{cs:List Value}(h:tDict.R w O d cs)(hl:d.words.length<=1000) :
  Calls Tryz.prog 14 #[.agg cs.toArray] w λe w'=>∃ A c,e=.returned (.slice A d.words.length c)/\tWord.At w' (λ_=>True) A (Zv d)/\Zg w w':=by
 obtain⟨A1,c1,A2,c2,A3,c3,A4,c4,A5,c5,A6,c6,A7,c7,A8,c8,rfl,h1,_⟩:=Ye h;obtain⟨ds,hels,hcells⟩:=Zbl (kv:=Us) (k:=5) rfl (λ{w O x cs} hr=>by obtain⟨p,q,rfl,_⟩:=Ui hr;exact⟨_,rfl⟩) h1.2.2;have hn:=Gv hels;have hA:A1=none->d.words.length=0/\c1=0:=λe=>by have:=h1.2.1 e;have:=h1.1;omega
 refine (Zo0 Zqf Tryz.func14 (El.enc Us) (λx=>x.key.surface) (El.enc_len _) (El.enc_one (λ_=>rfl)) (λ_=>rfl) ds.toArray A1 d.words.length c1 w (by simp[hn]) hA hcells Om _ _ _ _ _ _ _ _ _ _).mono ?_;rintro e w' ⟨v,rfl,hr,hx⟩
 have hLT:(λx y:El GWord 5=>Op.bytesLess x.key.surface.toList y.key.surface.toList)=λx y:El GWord 5=>Wq x.key y.key:=by
  funext x y;exact Znr _ _
 rw[hLT,show d.words.length=ds.toArray.size by simp[hn],Q9 (tag:=El.tag) (Rg Lc El.key) ds.toArray (Zgn hels)]at hr;obtain⟨e1,e2⟩:=T4 hels Wq;have e2':∀ x∈Z5 (λx y:El GWord 5=>Wq x.key y.key) ds,tWord.R w' O x.key (x.enc Us):=λx hx'=>tWord.ext (e2 x hx') hx
 obtain⟨A,c,rfl,ha⟩:=B8 (d:=tWord) rfl _ hr (List.Perm.length_eq (SS.sortL_perm _ _)) (by simp[hn];omega) e2';have e3:ds.toArray.size=d.words.length:=by simp[hn]
 rw[e3];exact⟨A,c,rfl,by rw[show Zv d=_ from e1.symm];exact ha,hx⟩
theorem Zed{w:World}{O:Nat->Prop}{d:Zj}{cs:List Value}(h:tDict.R w O d cs)(hl:d.unknown.length<=1000) :
  Calls Tryz.prog 20 #[.agg cs.toArray] w λe w'=>∃ A c,e=.returned (.slice A d.unknown.length c)/\tUnk.At w' (λ_=>True) A (Zf d)/\Zg w w':=by
 obtain⟨A1,c1,A2,c2,A3,c3,A4,c4,A5,c5,A6,c6,A7,c7,A8,c8,rfl,_,_,_,_,h1,_⟩:=Ye h;obtain⟨ds,hels,hcells⟩:=Zbl (kv:=Zfm) (k:=4) rfl (λ{w O x cs} hr=>by obtain⟨q,rfl,_⟩:=Tv hr;exact⟨_,rfl⟩) h1.2.2;have hn:=Gv hels;have hA:A5=none->d.unknown.length=0/\c5=0:=λe=>by have:=h1.2.1 e;have:=h1.1;omega
 refine (Zo1 Zqg Tryz.func20 (El.enc Zfm) (λx=>x.key.cls) (El.enc_len _) (El.enc_one (λ_=>rfl)) (λ_=>rfl) ds.toArray A5 d.unknown.length c5 w (by simp[hn]) hA hcells Om _ _ _ _ _ _ _ _ _ _).mono ?_;rintro e w' ⟨v,rfl,hr,hx⟩;have hLT:(λx y:El GUnk 4=>decide (x.key.cls<y.key.cls))=λx y:El GUnk 4=>Rb x.key y.key:=rfl
 rw[hLT,show d.unknown.length=ds.toArray.size by simp[hn],Q9 (tag:=El.tag) (Rg Cd El.key) ds.toArray (Zgn hels)]at hr;obtain⟨e1,e2⟩:=T4 hels Rb;have e2':∀ x∈Z5 (λx y:El GUnk 4=>Rb x.key y.key) ds,tUnk.R w' O x.key (x.enc Zfm):=λx hx'=>tUnk.ext (e2 x hx') hx
 obtain⟨A,c,rfl,ha⟩:=B8 (d:=tUnk) rfl _ hr (List.Perm.length_eq (SS.sortL_perm _ _)) (by simp[hn];omega) e2';have e3:ds.toArray.size=d.unknown.length:=by simp[hn]
 rw[e3];exact⟨A,c,rfl,by rw[show Zf d=_ from e1.symm];exact ha,hx⟩
end
end Go.Proofs.YtoliamijgmifkaaGreatDoor
