/- laws.placed, laws.formAt, laws -/
import Derived.Test.YtoliamijgmifkaaGreatDoorH39
set_option linter.all false
set_option maxRecDepth 100000
namespace Go.Proofs.YtoliamijgmifkaaGreatDoor
open Go.RowKit DT SS TR LT
theorem Zdc(l:List GMark)(m:GMark)(key:ByteArray):Yb (Zi (l++[m])) key=if m.name=key then some m.place else Yb (Zi l) key:=by
 unfold Yb Zi;rw[List.map_append,List.foldl_append];rfl
theorem Ei{w:World}{O:Nat->Prop}{A:Option Addr}{c:Nat}{ms:List GMark}(key:ByteArray)(h:tMark.At w O A ms) :
  Calls Tryz.prog 19 #[.slice A ms.length c,.string key] w λe w'=>e=.returned (.tuple #[.int .i64 ((Yb (Zi ms) key).getD 0),.bool (Yb (Zi ms) key).isSome])/\Zg w w':=by
 have hm:=h.1;have H:=Hd h;clear h;obtain⟨n,hn⟩:∃ n,n=ms.length:=⟨_,rfl⟩;rw[<- hn]at hm⊢;have HN:=Hd hn;clear hn;go_enter Tryz.func19,Tryz.ntmps19
 go_wp2_with fail
 go_loopg [6] n (λg1 v6 wr=>∃ j:Nat,v6=.int .i64 ((j:Int)-1)/\j<=n/\j<=g1/\Hid (Yb (Zi (ms.take j)) key=Yb (Zi ms) key/\Zg w wr))
 case atStart=>exact⟨n,by go_num,Om,Om,by rw[HN.out,List.take_length],Fl _⟩
 case round =>
  obtain⟨j,rfl,hj,hg,HR⟩:=hrel;rcases j with _|m
  ·have h0:Yb (Zi ms) key=none:=HR.out.1.symm;have hz:¬ (0:Int)<=((0:Nat):Int)-1:=Om;have H0:=Hd h0;clear h0;go_wp2_with fail
   go_ret2
   exact⟨by show Ending.returned (.tuple #[.int .i64 0,.bool false])=_;rw[H0.out];rfl,HR.out.2⟩
  ·have e1:((m+1:Nat):Int)-1=(m:Int):=Om;rw[e1];have hz:(0:Int)<=(m:Int):=Om;have hmi:m<ms.length:=by rw[<- HN.out];exact hj
   have hmn:(m:Int)<(n:Int):=Om;obtain⟨b,o,rfl,_,lb,q0,q1,_,_⟩:=Gr H.out m hmi;have q0:=HR.out.2.cell q0 id;have q1:=HR.out.2.cell q1 id;have lw:=lt_of_cell q0;have HT:Hid (ms.take (m+1)=ms.take m++[ms[m]]):=List.take_succ_eq_append_getElem hmi;have HE:Hid (Yb (Zi ms) key=if ms[m].name=key then some ms[m].place else Yb (Zi (ms.take m)) key):=by show _=_;rw[<- HR.out.1,HT.out,Zdc]
   clear HT lb;generalize ms[m]=mk at *;clear hmi
   cases hq:(mk.name.toList==key.toList) with
   | true =>
    have hxy:mk.name=key:=by
     have:=eq_of_beq hq;rw[ByteArray.toList_eq,ByteArray.toList_eq]at this;exact ByteArray.ext (Array.toList_inj.1 this)
    have e:=HE.out;rw[if_pos hxy]at e;have HX:=Hd e;clear e hxy HE;go_wp2_with fail
    go_ret2
    exact⟨by show Ending.returned (.tuple #[.int .i64 mk.place,.bool true])=_;rw[HX.out];rfl,HR.out.2⟩
   | false =>
    have hxy:¬ mk.name=key:=λe=>by rw[e]at hq;simp at hq
    have e:=HE.out;rw[if_neg hxy]at e;have HX:=Hd e;clear e hxy HE;go_wp2_with fail
    go_roundg m
    case measure=>omega
    case rel=>exact⟨m,by go_num,Om,Om,HX.out.symm,HR.out.2⟩
theorem Vm(a:Option ByteArray)(w:World):Calls Tryz.prog 17 #[.agg #[.string (a.getD ⟨#[]⟩),.bool a.isSome],.agg #[.string (a.getD ⟨#[]⟩),.bool a.isSome]] w λe w'=>e=.returned (.bool true)/\Zg w w':=by
 have X:Zg w ((w.alloc (.cells #[.string (a.getD ⟨#[]⟩),.bool a.isSome] 48)).alloc (.cells #[.string (a.getD ⟨#[]⟩),.bool a.isSome] 48)):=((Fl w).alloc _).alloc _;rcases a with _|x
 ·go_enter Tryz.func17,Tryz.ntmps17
  go_wp2_with fail
  go_ret;exact⟨rfl,X⟩
 ·go_enter Tryz.func17,Tryz.ntmps17
  go_wp2_with fail
  go_ret;exact⟨rfl,X⟩
theorem Ew{w:World}{O O':Nat->Prop}{A B:Option Addr}{c b:Nat}{ms:List GMark}{ft:List ByteArray}(key:ByteArray)(h:tMark.At w O A ms)(hF:strs.R w O' ft [.slice B ft.length b]) :
  Calls Tryz.prog 18 #[.slice B ft.length b,.slice A ms.length c,.string key] w λe w'=>e=.returned (.agg #[.string (((Yb (Zi ms) key).bind (V0 ft)).getD ⟨#[]⟩),.bool ((Yb (Zi ms) key).bind (V0 ft)).isSome])/\Zg w w':=by
 have CP:Hid (∀ W,Zg w W->Calls Tryz.prog 19 #[.slice A ms.length c,.string key] W λe w'=>e=.returned (.tuple #[.int .i64 ((Yb (Zi ms) key).getD 0),.bool (Yb (Zi ms) key).isSome])/\Zg W w'):=λW f=>Ei key (Yc h f)
 generalize Yb (Zi ms) key=a at *;have HF:=Hd hF;clear h hF;have B0:=alloc_at w (.cells #[.string ⟨#[]⟩,.bool false] 48);have X0:Zg w (w.alloc (.cells #[.string ⟨#[]⟩,.bool false] 48)):=(Fl w).alloc _;have HB:=Hd (Ai1 B0 X0);clear B0 X0;obtain⟨r,hr⟩:∃ r,r=a.bind (V0 ft):=⟨_,rfl⟩;rw[<- hr];have HRR:=Hd hr;clear hr;go_enter Tryz.func18,Tryz.ntmps18
 go_upto_region 2 with (first
  | (go_at_call 19;refine (CP.out _ HB.out.2).mono ?_;rintro e w1 ⟨rfl,hx⟩;have HX:=Hd hx;clear hx)
  | fail)
 obtain⟨rb,hrb⟩:∃ rb,rb=w.heap.size:=⟨_,rfl⟩;rw[<- hrb];have hb1:=HX.out.heap HB.out.1 id;rw[<- hrb]at hb1;have z0:=cell_of hb1 0 (.string ⟨#[]⟩) rfl;have z1:=cell_of hb1 1 (.bool false) rfl;have p0:=Zm hb1 0;have p1:=Zm hb1 1;have lb:=lt_of_cell z0;have HW:=Hd (Z0 HB.out.2 HX.out);have HR:=Hd hrb;have HB1:=Hd hb1;clear hb1 hrb HB HX;rcases a with _|v
 ·have hz:r=none:=HRR.out;have HZ:=Hd hz;clear hz;go_wp2_with fail
  have g:=Ya (Ya HB1.out 0 (.string ⟨#[]⟩)) 1 (.bool false);have F:Fr (λk=>k=rb) w1 ((w1.setCell ⟨rb,0,none⟩ (.string ⟨#[]⟩)).setCell ⟨rb,1,none⟩ (.bool false)):=((Fr.refl (λk=>k=rb) w1).setCell ⟨rb,0,none⟩ _ (λ_=>rfl)).setCell ⟨rb,1,none⟩ _ (λ_=>rfl);have y0:=cell_of g 0 (.string ⟨#[]⟩) rfl;have y1:=cell_of g 1 (.bool false) rfl;clear z0 z1 p0 p1;generalize World.setCell _ ⟨rb,1,none⟩ _=w2 at *;refine bodyPost_ret (by simp[results,Tryz.results18,y0,y1,go_sem];try rfl) rfl ?_;exact⟨by rw[HZ.out];rfl,HW.out.trans F (λk hk e=>by have:=HR.out;omega)⟩
 ·by_cases hv:v<0
  ·have HZ:Hid (r=none):=by show _=_;rw[HRR.out];exact if_pos hv
   go_wp2_with fail
   have g:=Ya (Ya HB1.out 0 (.string ⟨#[]⟩)) 1 (.bool false);have F:Fr (λk=>k=rb) w1 ((w1.setCell ⟨rb,0,none⟩ (.string ⟨#[]⟩)).setCell ⟨rb,1,none⟩ (.bool false)):=((Fr.refl (λk=>k=rb) w1).setCell ⟨rb,0,none⟩ _ (λ_=>rfl)).setCell ⟨rb,1,none⟩ _ (λ_=>rfl);have y0:=cell_of g 0 (.string ⟨#[]⟩) rfl;have y1:=cell_of g 1 (.bool false) rfl;clear z0 z1 p0 p1;generalize World.setCell _ ⟨rb,1,none⟩ _=w2 at *;refine bodyPost_ret (by simp[results,Tryz.results18,y0,y1,go_sem];try rfl) rfl ?_;exact⟨by rw[HZ.out];rfl,HW.out.trans F (λk hk e=>by have:=HR.out;omega)⟩
  ·obtain⟨q,hq⟩:∃ q:Nat,v=q:=⟨v.toNat,Om⟩;have HQ:Hid (r=ft[q]?):=by show _=_;rw[HRR.out,hq];show V0 ft (q:Int)=ft[q]?;exact if_neg Om
   subst hq;by_cases hl:q<ft.length
   ·have HZ:Hid (r=some ft[q]):=by show _=_;rw[HQ.out,Ge hl]
    obtain⟨bf,of,rfl,lf,cf⟩:=Y5 HF.out (λe=>by rw[e]at hl;exact absurd hl (by simp))
    have f0:w.cell? ⟨bf,of+q,none⟩=some (.string ft[q]):=by
     have:=cf q (.string ft[q]) (by rw[List.getElem?_map,Ge hl];rfl);rwa[Addr.add_lit]at this
    have f1:=HW.out.cell f0 id;have lw:=lt_of_cell f1;generalize ft[q]=fx at *;clear f0 cf lf;have hqi:(q:Int)<(ft.length:Int):=Om;have hn1:¬ (ft.length:Int)<=(q:Int):=Om;go_wp2_with fail
    have g:=Ya (Ya HB1.out 0 (.string fx)) 1 (.bool true);have F:Fr (λk=>k=rb) w1 ((w1.setCell ⟨rb,0,none⟩ (.string fx)).setCell ⟨rb,1,none⟩ (.bool true)):=((Fr.refl (λk=>k=rb) w1).setCell ⟨rb,0,none⟩ _ (λ_=>rfl)).setCell ⟨rb,1,none⟩ _ (λ_=>rfl);have y0:=cell_of g 0 (.string fx) rfl;have y1:=cell_of g 1 (.bool true) rfl;clear z0 z1 p0 p1;generalize World.setCell _ ⟨rb,1,none⟩ _=w2 at *;refine bodyPost_ret (by simp[results,Tryz.results18,y0,y1,go_sem];try rfl) rfl ?_;exact⟨by rw[HZ.out];rfl,HW.out.trans F (λk hk e=>by have:=HR.out;omega)⟩
   ·have HZ:Hid (r=none):=by show _=_;rw[HQ.out,List.getElem?_eq_none Om]
    have hqi:(ft.length:Int)<=(q:Int):=Om;go_wp2_with fail
    have g:=Ya (Ya HB1.out 0 (.string ⟨#[]⟩)) 1 (.bool false);have F:Fr (λk=>k=rb) w1 ((w1.setCell ⟨rb,0,none⟩ (.string ⟨#[]⟩)).setCell ⟨rb,1,none⟩ (.bool false)):=((Fr.refl (λk=>k=rb) w1).setCell ⟨rb,0,none⟩ _ (λ_=>rfl)).setCell ⟨rb,1,none⟩ _ (λ_=>rfl);have y0:=cell_of g 0 (.string ⟨#[]⟩) rfl;have y1:=cell_of g 1 (.bool false) rfl;clear z0 z1 p0 p1;generalize World.setCell _ ⟨rb,1,none⟩ _=w2 at *;refine bodyPost_ret (by simp[results,Tryz.results18,y0,y1,go_sem];try rfl) rfl ?_;exact⟨by rw[HZ.out];rfl,HW.out.trans F (λk hk e=>by have:=HR.out;omega)⟩
end Go.Proofs.YtoliamijgmifkaaGreatDoor
