/- laws.rightUser. -/
import Derived.Test.YtoliamijgmifkaaGreatDoorF48
import Derived.Test.YtoliamijgmifkaaGreatDoorF42
set_option linter.all false
set_option maxRecDepth 100000
set_option maxHeartbeats 4000000
namespace Go.Proofs.YtoliamijgmifkaaGreatDoor
open Go.RowKit DT SS TR LT UC Lib
theorem Zf7:Qx Tryz.prog 9 1 16:=Rk (by kernel_rfl)
theorem Fx(r:Nat):(R8 r=true/\((r<=32/\decide ((r:Int)<=32)=true)\/r=133\/r=160\/r=12288\/r=8232\/r=8233\/r=8239\/r=8287\/r=5760\/r=65533\/(8192<=r/\r<=8203/\¬ r<=32/\r≠133/\r≠160/\r≠12288)))\/(R8 r=false/\¬ r<=32/\r≠133/\r≠160/\r≠12288/\(¬ 8192<=r\/(8192<=r/\¬ r<=8203))/\r≠8232/\r≠8233/\r≠8239/\r≠8287/\r≠5760/\r≠65533):=by
 cases h:R8 r with
 | true =>
  left;refine⟨rfl,?_⟩;simp only[R8,Bool.or_eq_true,decide_eq_true_eq,beq_iff_eq,Bool.and_eq_true]at h;rw[decide_eq_true_eq];omega
 | false =>
  right;refine⟨rfl,?_⟩;simp only[R8,Bool.or_eq_false_iff,decide_eq_false_iff_not,beq_eq_false_iff_ne,Bool.and_eq_false_iff]at h;omega
theorem Jp(w:World)(O:Nat->Prop)(A:Option Addr)(c:Nat)(us:List GRec)(h:tRec.At w O A us)(hs:∀ u∈us,u.text.size<=2147483647)(hl:us.length<=2147483647) :
  Calls Tryz.prog 32 #[.slice A us.length c] w fun e w'=>e = .returned (.bool (ruB us))/\Ext w w':=by
 obtain⟨n,hn⟩:∃ n,n=us.length:=⟨_,rfl⟩;rw[<- hn]at hl⊢;have HU:=Lib.hid (And.intro h (And.intro hs hn));clear h hs hn;go_enter Tryz.func32,Tryz.ntmps32
 go_wp2_with fail
 go_loopg [3,10] n (fun g1 v3 v10 wr=>∃ (i:Nat) (u:Value),v3=u/\v10 = .int .i64 (i:Int)/\i<=n/\n<=i+g1/\Hid (RowK Ty.str 9 u ((us.take i).map GRec.text) w.heap.size wr/\Ext w wr/\(us.take i).all Ok=true))
 case atStart=>exact⟨0,_,rfl,rfl,by omega,by omega,RowK.nil _,Fr.refl _ _,rfl⟩
 case round =>
  obtain⟨i,u,rfl,rfl,hi,hg,HR⟩:=hrel;by_cases hlt:i<n
  ·have hlz:(i:Int)<(n:Int):=by omega
   have hz0:(0:Int)<=(i:Int):=by omega
   have hil:i<us.length:=by rw[<- HU.out.2.2];exact hlt
   obtain⟨b,o,p,q,rfl,_,hbl,⟨Ap,cp,ep,_,_,_⟩,⟨Aq,cq,eq,_,_,_⟩,hs1,hs2,e0,e1,e2,e3⟩:=Gh HU.out.1 i hil;cases ep;cases eq;have q0:=HR.out.2.1.cell e0 id;have q1:=HR.out.2.1.cell e1 id;have q2:=HR.out.2.1.cell e2 id;have q3:=HR.out.2.1.cell e3 id;have HB:Hid (Ok us[i]=false->ruB us=false):=fun e=>by unfold ruB;rw[Y0 Ok _ _ hil e];rfl
   have HK:Hid (Ok us[i]=true->(us.take (i+1)).all Ok=true/\us.take (i+1)=us.take i++[us[i]]):=fun e=>⟨Yr Ok _ _ hil HR.out.2.2 e,List.take_succ_eq_append_getElem hil⟩
   have hsz:=HU.out.2.1 _ (List.getElem_mem hil);clear e0 e1 e2 e3;generalize us[i]=x at *;obtain⟨ANS,hANS⟩:∃ A,A=(Zd x.text).all fun c=>!R8 (Y4 c):=⟨_,rfl⟩
   have hk:Ok x=(ANS&&(decide (1<=x.tokens.length)&&decide (x.tokens.length=x.yomi.length))):=by rw[hANS];rfl
   have HANS:=Lib.hid hANS;rw[hk]at HB HK;have HL:=Lib.hid HR.out.1.low;clear hANS hk hil;go_upto_region 5 with fail
   obtain⟨rb,hrb⟩:∃ rb,rb=wr.heap.size:=⟨_,rfl⟩;have hbx:=alloc_at wr (.cells #[.string x.text,.slice Ap x.tokens.length cp,.slice Aq x.yomi.length cq,.string x.pos] 53);have XA:Ext wr (wr.alloc (.cells #[.string x.text,.slice Ap x.tokens.length cp,.slice Aq x.yomi.length cq,.string x.pos] 53)):=(Fr.refl _ _).alloc _;rw[<- hrb]at hbx⊢;have HXA:=Lib.hid (And.intro XA hrb);clear XA q0 q1 q2 q3 hrb;generalize wr.alloc _=wa at *;have b0:=cell_of hbx 0 (.string x.text) rfl;have HBX:=Lib.hid hbx;clear hbx;go_wp2_with fail
   obtain⟨ib,hib⟩:∃ b,b=wa.heap.size:=⟨_,rfl⟩;rw[<- hib];have HIB:=Lib.hid hib;clear hib b0
   go_loopg [] x.text.size (fun g2 wc=>∃ pos:Nat,Hid (wc.heap[ib]? = some (.stringIter x.text pos))/\x.text.size<=pos+g2/\Hid (Ext wa wc)/\Hid ((Y6 (x.text.data.toList.drop pos)).all (fun c=>!R8 (Y4 c))=ANS))
   case atStart=>exact⟨0,by rw[HIB.out];exact World.iter_heap wa x.text 0,by omega,(Fr.refl _ _).alloc _,HANS.symm⟩
   case round =>
    obtain⟨pos,HI,hgp,HX,HA⟩:=hrel;by_cases hp:pos<x.text.size
    ·have hnx:=fun ty=>Qn (P:=Tryz.prog) HI.out ty hp
     have hszl:x.text.data.toList.length=x.text.size:=by rw[Array.length_toList];rfl
     have hne:x.text.data.toList.drop pos≠[]:=by
      intro e;have:=congrArg List.length e;rw[List.length_drop,hszl]at this;simp at this;omega
     have hch:=chunk_step _ hne;have hru:=Q4 hne;rw[decodeL_drop,List.drop_drop]at hch;rw[decodeL_drop]at hru;have hA:=HA.out;rw[hch,List.all_cons,hru]at hA;have hwd:=Lib.width_pos x.text pos;have hrl:=Lib.rune_le x.text pos;have XN:Ext wa (Xx wr ib x.text (pos+(Utf8.decode x.text pos).2)):=HX.out.trans (U6 wr ib x.text _) (fun j hj e=>by have:=HIB.out;omega);have IN:=Qt (pos+(Utf8.decode x.text pos).2) HI.out;clear hch hru hne hszl;generalize Utf8.decode x.text pos=dp at hnx hA hwd hrl XN IN;obtain⟨r,wd⟩:=dp;simp only at hnx hA hwd hrl XN IN;have HN:=Lib.hid (And.intro hA (And.intro XN IN));clear hA XN IN;rcases Fx r with ⟨hw,hcs⟩|⟨hw,h0,h1,h2,h3,h45,h6,h7,h8,h9,h10,h11⟩
     ·have HE:Hid (false=ruB us/\Ext w (Xx wr ib x.text (pos+wd))):=⟨(HB.out (by rw[<- HN.1,hw];rfl)).symm,(HR.out.2.1.trans HXA.out.1 (fun _ _ e=>e)).trans HN.2.1 (fun _ _ e=>e)⟩;clear hw HN hwd;rcases hcs with ⟨h0,h0'⟩|rfl|rfl|rfl|rfl|rfl|rfl|rfl|rfl|rfl|⟨h4,h5,g0,g1,g2,g3⟩
      all_goals (go_wp2_with fail)
      all_goals (first|go_ret|go_ret2)
      all_goals exact⟨Zg HE.out.1,HE.out.2⟩
     ·have HW:=Lib.hid hw;have k0:¬ (r:Int)<=32:=by omega
      have k1:=beq_eq_false_iff_ne.2 (show (r:Int)≠133 by omega);have k2:=beq_eq_false_iff_ne.2 (show (r:Int)≠160 by omega);have k3:=beq_eq_false_iff_ne.2 (show (r:Int)≠12288 by omega);have k6:=beq_eq_false_iff_ne.2 (show (r:Int)≠8232 by omega);have k7:=beq_eq_false_iff_ne.2 (show (r:Int)≠8233 by omega);have k8:=beq_eq_false_iff_ne.2 (show (r:Int)≠8239 by omega);have k9:=beq_eq_false_iff_ne.2 (show (r:Int)≠8287 by omega);have k10:=beq_eq_false_iff_ne.2 (show (r:Int)≠5760 by omega);have k11:=beq_eq_false_iff_ne.2 (show (r:Int)≠65533 by omega);clear hw h0 h1 h2 h3 h6 h7 h8 h9 h10 h11;rcases h45 with h4|⟨h4,h5⟩
      all_goals (go_wp2_with fail)
      all_goals (go_roundg (x.text.size-(pos+wd)))
      all_goals (first|omega|exact⟨pos+wd,HN.2.2,by omega,HN.2.1,by
       have:=HN.1;rw[HW.out,Bool.not_false,Bool.true_and]at this
       exact this⟩)
    ·have hnx:=fun ty=>Vq (P:=Tryz.prog) HI.out ty hp
     have hszl:x.text.data.toList.length=x.text.size:=by rw[Array.length_toList];rfl
     have EA:Hid (ANS=true):=by
      show _=_;have:=HA.out;rw[List.drop_eq_nil_of_le (by omega)]at this;exact this.symm
     have hb2:=HX.out.heap HBX.out id;have b0:=cell_of hb2 0 (.string x.text) rfl;have b1:=cell_of hb2 1 (.slice Ap x.tokens.length cp) rfl;have b2:=cell_of hb2 2 (.slice Aq x.yomi.length cq) rfl;have lb:rb<wr.heap.size:=lt_of_cell b0;have HXX:=Lib.hid (HXA.out.1.trans HX.out (fun _ _ e=>e));clear hszl hb2;by_cases t1:1<=x.tokens.length
     ·by_cases t2:x.tokens.length=x.yomi.length
      ·have t1z:¬ (x.tokens.length:Int)<1:=by omega
       have t2z:((x.tokens.length:Int) != (x.yomi.length:Int))=false:=bne_eq_false_iff_eq.2 (by omega);have HK2:=Lib.hid (HK.out (by rw[EA.out,decide_eq_true t1,decide_eq_true t2];rfl));have HTT:=Lib.hid t2;clear t2
       go_wp2_with (first
        | (at_builtin;refine RowK.lst (v:=u3) rfl _ _ 43 rfl x.text [.string x.text] 16 ⟨wr.heap.size,0,none⟩ Tryz.underlying43 Zf7 (by decide) (by omega) rfl rfl (HR.out.1.ext (HXX.out.alloc _)) (by rw[List.length_map,List.length_take];omega) (by have:=(HR.out.2.1.trans HXX.out (fun _ _ e=>e)).size;simp;omega) (Z4 _ _) ⟨rfl,hs1⟩ ?_;intro v' w6 hR6 hf6 ha6;have H6:=Lib.hid (And.intro hR6 hf6);clear hR6 hf6 ha6)
        | fail)
       go_roundg (n-(i+1))
       case measure=>omega
       case rel=>exact⟨i+1,v',rfl,by go_num,by omega,by omega,by rw[HK2.out.2,List.map_append];exact H6.out.1,((HR.out.2.1.trans HXX.out (fun _ _ e=>e)).alloc _).trans H6.out.2 (fun j hj e=>by have:=(HL.out j e).1;omega),HK2.out.1⟩
      ·have HE:Hid (false=ruB us/\Ext w wr):=⟨(HB.out (by rw[decide_eq_false t2,Bool.and_false,Bool.and_false])).symm,HR.out.2.1.trans HXX.out (fun _ _ e=>e)⟩;have t1z:¬ (x.tokens.length:Int)<1:=by omega
       have t2z:((x.tokens.length:Int) != (x.yomi.length:Int))=true:=bne_iff_ne.2 (by omega);go_wp2_with fail
       first|go_ret|go_ret2
       exact⟨Zg HE.out.1,HE.out.2⟩
     ·have HE:Hid (false=ruB us/\Ext w wr):=⟨(HB.out (by rw[decide_eq_false t1,Bool.false_and,Bool.and_false])).symm,HR.out.2.1.trans HXX.out (fun _ _ e=>e)⟩;have t1z:(x.tokens.length:Int)<1:=by omega
      go_wp2_with fail
      first|go_ret|go_ret2
      exact⟨Zg HE.out.1,HE.out.2⟩
  ·obtain rfl:i=n:=by omega
   have htk:us.take i=us:=by rw[HU.out.2.2];exact List.take_length
   have hsl:=HR.out.1.slice;rw[htk]at hsl;have hall:=HR.out.2.2;rw[htk]at hall;obtain⟨A3,c3,e3,_,_,hat⟩:=hsl;simp only[List.cons.injEq,and_true]at e3;rw[List.length_map,<- HU.out.2.2]at e3;have CO:=Lib.hid (Df wr _ A3 c3 (us.map GRec.text) hat (fun s hs=>by obtain⟨u,hu,rfl⟩:=List.mem_map.1 hs;exact HU.out.2.1 u hu));rw[List.length_map,<- HU.out.2.2]at CO;have HE:Hid (Jt (us.map GRec.text)=ruB us):=by show _=_;unfold ruB;rw[hall,Bool.true_and]
   clear hat hall;subst e3
   go_wp2_with (first
    | (go_at_call 75;refine CO.out.mono ?_;rintro e w2 ⟨rfl,hx⟩;have HX:=Lib.hid hx;clear hx)
    | fail)
   first|go_ret|go_ret2
   exact⟨Zg HE.out,HR.out.2.1.trans HX.out (fun _ _ e=>e)⟩
theorem Zgo(w:World)(O Oi:Nat->Prop)(d:Zf)(cs:List Value)(A:Option Addr)(c:Nat)(xs:List ByteArray)(h:tDict.R w O d cs)(hf:Yp d=true)(hT:U8 w)(hx:Ty.str.At w Oi A xs) :
  Calls Tryz.prog 10 #[.agg cs.toArray,.slice A xs.length c] w fun e w'=>e = .returned (.bool (Sv d xs))/\Ext w w':=by
 refine Zgn w O Oi d cs A c xs h hf hT hx (fun W B k hat=>Jp W O B k d.user hat (fun u hu=>?_) ?_)
 ·have hf:=hf;unfold Yp at hf;simp only[Bool.and_eq_true]at hf;have:=List.all_eq_true.1 hf.2.2.2.2.2.2.2.2 u hu;unfold Wc at this;rw[Bool.and_eq_true]at this;simpa [Yi] using this.1
 ·have hf:=hf;unfold Yp at hf;simp only[Bool.and_eq_true]at hf;simpa [Yi] using hf.2.2.2.2.2.2.2.1
end Go.Proofs.YtoliamijgmifkaaGreatDoor
