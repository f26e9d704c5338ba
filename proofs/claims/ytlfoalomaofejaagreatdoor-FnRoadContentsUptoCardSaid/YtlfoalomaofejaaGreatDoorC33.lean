/- laws.surfaces: the words' surf -/
import Derived.Test.YtlfoalomaofejaaGreatDoorC22
import Derived.Test.YtlfoalomaofejaaGreatDoorC24
set_option linter.all false
set_option maxRecDepth 100000
set_option maxHeartbeats 2000000
namespace Go.Proofs.YtlfoalomaofejaaGreatDoor
section
open Go.RowKit DT SS TR LT
def Uo(d:Zg):List ByteArray:=d.words.map (λx=>x.surface)++d.user.map (λx=>x.text)
theorem Zaa{w w2 wr:World}{B:Nat}(h:Zf w wr)(hB:w.heap.size<=B){T:TypeId}{k:Nat}{u:Value}{n:Nat}{xs:List Value}(ho:wr.ownsRow B T k u n xs)(o p:Obj)(hg:((wr.alloc o).alloc p).grownBy w2 u.ownBlock):Zf w w2:=by
 have X:Zf w _:=(h.alloc o).alloc p;exact X.trans ((Fr.refl (λj=>u.ownBlock=some j) _).grown hg (λk e _=>e)) (λj hj e=>by have:=(ho.lt j e).1;omega)
theorem Ea(w:World)(o:Obj)(u:Value)(T:TypeId):∀ j v,[u][j]?=some v->((w.alloc o).alloc (.cells #[u] T)).cell? ((⟨w.heap.size+1,0,none⟩:Addr).add j)=some v:=λj v h=>by
 have:=Z0 (w.alloc o) u (T:=T) j v h;rw[Za]at this;exact this
theorem Ei(w:World)(O:Nat->Prop)(d:Zg)(cs:List Value)(h:tDict.R w O d cs)(hw:d.words.length<=1000)(hu:d.user.length<=1000) :
  Calls Tryz.prog 55 #[.agg cs.toArray] w λe w'=>∃ v,e=.returned v/\w'.ownsRow (w.heap.size+1) 9 1 v (Uo d).length ((Uo d).map Value.string)/\Zf w w':=by
 obtain⟨A1,c1,A2,c2,A3,c3,A4,c4,A5,c5,A6,c6,A7,c7,A8,c8,rfl,h1,h2,h3,h4,h5,h6,h7,h8,_⟩:=Yy h;obtain⟨is,his,hs0,hs1,hs2⟩:=info_parts U7;obtain⟨n,hn⟩:∃ n,n=d.words.length:=⟨_,rfl⟩;obtain⟨m,hm⟩:∃ n,n=d.user.length:=⟨_,rfl⟩;have HW:=Hd h1.2.2;have HU:=Hd h8.2.2;have HN:=Hd (Ai1 hn hm);have B0:=alloc_at w (.cells #[.slice A1 d.words.length c1,.int .i64 d.rows,.int .i64 d.cols,.slice A2 d.costs.length c2,.slice A3 d.classes.length c3,.slice A4 d.chars.length c4,.slice A5 d.unknown.length c5,.slice A6 d.meta0.length c6,.slice A7 d.unkMeta.length c7,.bool d.hasUser,.slice A8 d.user.length c8] 30);have k0:=cellAt B0 0 (.slice A1 d.words.length c1) rfl;have k10:=cellAt B0 10 (.slice A8 d.user.length c8) rfl;have X0:=(Fe w).alloc (.cells #[.slice A1 d.words.length c1,.int .i64 d.rows,.int .i64 d.cols,.slice A2 d.costs.length c2,.slice A3 d.classes.length c3,.slice A4 d.chars.length c4,.slice A5 d.unknown.length c5,.slice A6 d.meta0.length c6,.slice A7 d.unkMeta.length c7,.bool d.hasUser,.slice A8 d.user.length c8] 30);have hz0:=Za w (.cells #[.slice A1 d.words.length c1,.int .i64 d.rows,.int .i64 d.cols,.slice A2 d.costs.length c2,.slice A3 d.classes.length c3,.slice A4 d.chars.length c4,.slice A5 d.unknown.length c5,.slice A6 d.meta0.length c6,.slice A7 d.unkMeta.length c7,.bool d.hasUser,.slice A8 d.user.length c8] 30);have HX:=Hd (Ai1 X0 (Ai1 k10 hz0));rw[<- hn]at hw;rw[<- hm]at hu;rw[<- hn,<- hm]at k0 k10 HX⊢;clear h h1 h2 h3 h4 h5 h6 h7 h8 hn hm X0 B0 k10 hz0;go_enter Tryz.func55,Tryz.ntmps55
 go_wp2_with fail
 generalize w.alloc _=w0 at *
 go_loopg [3,11] n (λg1 v3 v11 wr=>∃ (i:Nat) (u:Value),v3=u/\v11=.int .i64 (i:Int)/\i<=n/\n<=i+g1/\Hid (wr.ownsRow w0.heap.size 9 1 u i (((d.words.take i).map λx=>x.surface).map Value.string)/\Zf w0 wr))
 case atStart=>exact⟨0,_,rfl,rfl,Om,Om,World.ownsRow_nil _ _ _ _,Fl _⟩
 case round =>
  obtain⟨i,u,rfl,rfl,hi,hg,HR⟩:=hrel;by_cases hlt:i<n
  ·have hlz:(i:Int)<(n:Int):=Om;have hz0:(0:Int)<=(i:Int):=Om;have hil:i<d.words.length:=by rw[<- HN.out.1];exact hlt
   obtain⟨b,o,p,q,rfl,_,hbl,⟨Ap,cp,ep,_,_,_⟩,⟨Aq,cq,eq,_,_,_⟩,hsz,e0,e1,e2,e3,e4,e5⟩:=Nf HW.out i hil;cases ep;cases eq;have XX:=HX.out.1.trans HR.out.2 (λ_ _ e=>e);have q0:=XX.cell e0 id;have q1:=XX.cell e1 id;have q2:=XX.cell e2 id;have q3:=XX.cell e3 id;have q4:=XX.cell e4 id;have q5:=XX.cell e5 id
   have HT:Hid (((d.words.take (i+1)).map λx=>x.surface).map Value.string=((d.words.take i).map λx=>x.surface).map Value.string++[.string d.words[i].surface]):=by
    show _=_;rw[List.take_succ_eq_append_getElem hil,List.map_append,List.map_append];rfl
   have hwr:w0.heap.size<=wr.heap.size:=HR.out.2.size;clear XX e0 e1 e2 e3 e4 e5;generalize d.words[i]=x at *;clear hil
   go_wp2_with (first
    | (at_builtin;refine wpList_append_own_at _ rfl _ _ 34 rfl w0.heap.size 9 is _ 1 16 Tryz.underlying34 his hs0 hs1 hs2 rfl (by decide) u3 i _ rfl ((HR.out.1.alloc _).alloc _) ⟨wr.heap.size+1,0,none⟩ 1 1 [.string x.surface] rfl rfl (Ea _ _ _ _) (by intro x hx;rw[List.mem_singleton.1 hx];rfl) (by unfold maxLen;omega) Om (by simp;omega) ?_;intro v' w7 hown' hgrow hnil' hat;have HE:=Hd (Ai1 hown' (Zaa HR.out.2 (Nl _) HR.out.1 _ _ hgrow));clear hown' hgrow hnil' hat)
    | fail)
   go_roundg (n-(i+1))
   case measure=>omega
   case rel=>exact⟨i+1,v',rfl,by go_num,Om,Om,by rw[HT.out];exact HE.out.1,HE.out.2⟩
  ·obtain rfl:i=n:=Om
   have HR2:Hid (wr.ownsRow w0.heap.size 9 1 u3 i ((d.words.map λx=>x.surface).map Value.string)/\Zf w0 wr):=⟨by have:=HR.out.1;rw[HN.out.1,List.take_length,<- HN.out.1]at this;exact this,HR.out.2⟩;have k10':=HR.out.2.cell HX.out.2.1 id;clear HR;go_wp2_with fail
   go_loopg [3,24] m (λg1 v3 v24 wr=>∃ (j:Nat) (u:Value),v3=u/\v24=.int .i64 (j:Int)/\j<=m/\m<=j+g1/\Hid (wr.ownsRow w0.heap.size 9 1 u (i+j) ((d.words.map λx=>x.surface).map Value.string++((d.user.take j).map λx=>x.text).map Value.string)/\Zf w0 wr))
   case atStart=>exact⟨0,_,rfl,rfl,Om,Om,by simpa using HR2.out.1,HR2.out.2⟩
   case round =>
    obtain⟨j,u,rfl,rfl,hj,hgj,HQ⟩:=hrel;by_cases hlt:j<m
    ·have hlz:(j:Int)<(m:Int):=Om;have hz0:(0:Int)<=(j:Int):=Om;have hil:j<d.user.length:=by rw[<- HN.out.2];exact hlt
     obtain⟨b,o,p,q,rfl,_,hbl,⟨Ap,cp,ep,_,_,_⟩,⟨Aq,cq,eq,_,_,_⟩,hsz,_,e0,e1,e2,e3⟩:=Eu HU.out j hil;cases ep;cases eq;have XX:=HX.out.1.trans HQ.out.2 (λ_ _ e=>e);have q0:=XX.cell e0 id;have q1:=XX.cell e1 id;have q2:=XX.cell e2 id;have q3:=XX.cell e3 id
     have HT:Hid (((d.words.map λx=>x.surface).map Value.string++((d.user.take (j+1)).map λx=>x.text).map Value.string)=((d.words.map λx=>x.surface).map Value.string++((d.user.take j).map λx=>x.text).map Value.string)++[.string d.user[j].text]):=by
      show _=_;rw[List.take_succ_eq_append_getElem hil,List.map_append,List.map_append,<- List.append_assoc];rfl
     have hwr:w0.heap.size<=wr.heap.size:=HQ.out.2.size;clear XX e0 e1 e2 e3;generalize d.user[j]=x at *;clear hil
     go_wp2_with (first
      | (at_builtin;refine wpList_append_own_at _ rfl _ _ 34 rfl w0.heap.size 9 is _ 1 16 Tryz.underlying34 his hs0 hs1 hs2 rfl (by decide) u3 (i+j) _ rfl ((HQ.out.1.alloc _).alloc _) ⟨wr.heap.size+1,0,none⟩ 1 1 [.string x.text] rfl rfl (Ea _ _ _ _) (by intro x hx;rw[List.mem_singleton.1 hx];rfl) (by unfold maxLen;omega) Om (by simp;omega) ?_;intro v' w7 hown' hgrow hnil' hat;have HE:=Hd (Ai1 hown' (Zaa HQ.out.2 (Nl _) HQ.out.1 _ _ hgrow));clear hown' hgrow hnil' hat)
      | fail)
     go_roundg (m-(j+1))
     case measure=>omega
     case rel=>exact⟨j+1,v',rfl,by go_num,Om,Om,by rw[HT.out];exact HE.out.1,HE.out.2⟩
    ·obtain rfl:j=m:=Om
     go_wp2_with fail
     first|go_ret|go_ret2
     refine⟨_,rfl,?_,HX.out.1.trans HQ.out.2 (λ_ _ e=>e)⟩;have:=HQ.out.1;rw[HN.out.2,List.take_length,HX.out.2.2,HN.out.1]at this;unfold Uo;rw[List.length_append,List.length_map,List.length_map,List.map_append];exact this
end
section
open Go.RowKit LT UC Go.Lib
def rdB(s:ByteArray):Bool:=(Zd s).all (λc=>Xa c != 65533)&&decide (s.size<=300)
theorem Pw{l:List UInt8}(hne:l≠[]):Xa (l.take (decodeL l).2)=(decodeL l).1:=by
 by_cases hb:(decodeL l).1=65533/\(decodeL l).2=1
 ·rw[hb.1,hb.2]
  cases l with
  | nil=>exact absurd rfl hne
  | cons b t =>
   show (decodeL [b]).1=65533;have h:=hb.1;have h2:=hb.2;rw[decodeL_N]at h h2⊢;simp only[List.getD_cons_zero]at h h2⊢;unfold decodeN;by_cases c1:b.toNat<128
   ·unfold decodeN at h;rw[if_pos c1]at h;simp only at h;omega
   ·rw[if_neg c1,if_neg (by simp),if_neg (by simp),if_neg (by simp)]
 ·exact congrArg Prod.fst (Ry hne hb).2
theorem Ex{l:List UInt8}:∀ n,l.length<=n->(∀ c∈Xc l,Xa c≠65533)->∀ c∈Xc l,UC.Good c/\Xa c≠65533:=by
 intro n
 induction n generalizing l with
 | zero =>
  intro hl _ c hc;have:l=[]:=List.eq_nil_of_length_eq_zero Om;subst this;cases hc
 | succ n ih =>
  intro hl h c hc;by_cases hne:l=[]
  ·subst hne;cases hc
  ·rw[chunk_step l hne]at h hc;have h0:=h (l.take (decodeL l).2) (by simp);rcases List.mem_cons.1 hc with rfl|hc
   ·refine⟨(Ry hne (λe=>?_)).1,h0⟩;rw[Pw hne]at h0;exact h0 e.1
   ·refine ih (l:=l.drop (decodeL l).2) ?_ (λc hc=>h c (by simp[hc])) c hc;rw[List.length_drop]
    have hw:1<=(decodeL l).2:=by
     rcases Nat.eq_zero_or_pos (decodeL l).2 with e|e
     ·exfalso;have:(l.take (decodeL l).2)=[]:=by rw[e];rfl
      by_cases hb:(decodeL l).1=65533/\(decodeL l).2=1
      ·omega
      ·exact (Ry hne hb).1.1 this
     ·exact e
    omega
theorem Zkw(s:ByteArray):rdB s=true↔Rd s/\s.size<=300:=by
 unfold rdB;rw[Bool.and_eq_true,List.all_eq_true,decide_eq_true_eq];constructor
 ·rintro⟨h1,h2⟩;exact⟨Ex _ (Nl _) (λc hc=>by simpa using h1 c hc),h2⟩
 ·rintro⟨h1,h2⟩;exact⟨λc hc=>by simpa using (h1 c hc).2,h2⟩
theorem Ev(s:ByteArray)(w:World)(hs:s.size<=9223372036854775807):Calls Tryz.prog 40 #[.string s] w λe w'=>e=.returned (.bool (rdB s))/\Zf w w':=by
 obtain⟨ANS,hANS⟩:∃ A,A=(Zd s).all λc=>Xa c != 65533:=⟨_,rfl⟩
 have hk:rdB s=(ANS&&decide (s.size<=300)):=by rw[hANS];rfl
 have HANS:=Hd hANS;rw[hk];clear hANS hk;go_enter Tryz.func40,Tryz.ntmps40
 go_wp2_with fail
 obtain⟨b,hb⟩:∃ b,b=w.heap.size:=⟨_,rfl⟩;rw[<- hb];have HB:=Hd hb;clear hb
 go_loopg [] s.size (λg1 wr=>∃ pos:Nat,Hid (wr.heap[b]?=some (.stringIter s pos))/\s.size<=pos+g1/\Hid (Zf w wr)/\Hid ((Xc (s.data.toList.drop pos)).all (λc=>Xa c != 65533)=ANS))
 case atStart=>exact⟨0,by rw[HB.out];exact World.iter_heap w s 0,Om,(Fl _).alloc _,HANS.symm⟩
 case round =>
  obtain⟨pos,HI,hg,HX,HA⟩:=hrel;by_cases hp:pos<s.size
  ·have hnx:=λty=>Pb (P:=Tryz.prog) HI.out ty hp
   have hszl:s.data.toList.length=s.size:=by rw[Array.length_toList];rfl
   have hne:s.data.toList.drop pos≠[]:=by
    intro e;have:=congrArg List.length e;rw[List.length_drop,hszl]at this;simp at this;omega
   have hch:=chunk_step _ hne;have hru:=Pw hne;rw[decodeL_drop,List.drop_drop]at hch;rw[decodeL_drop]at hru;have hA:=HA.out;rw[hch,List.all_cons,hru]at hA;have hwd:=Lib.width_pos s pos;have hrl:=Lib.rune_le s pos;have XN:Zf w (Wc wr b s (pos+(Utf8.decode s pos).2)):=HX.out.trans (Th wr b s _) (λj hj e=>by have:=HB.out;omega);have IN:=Pi (pos+(Utf8.decode s pos).2) HI.out;clear hch hru hne hszl;generalize Utf8.decode s pos=dp at hnx hA hwd hrl XN IN;obtain⟨r,wd⟩:=dp;simp only at hnx hA hwd hrl XN IN;have HN:=Hd (Ai1 hA (Ai1 XN IN));clear hA XN IN;by_cases hr:r=65533
   ·have hrb:((r:Int)==65533)=true:=by simp;omega
    have EA:Hid (ANS=false):=by show _=_;rw[<- HN.1,hr];rfl
    clear hr;go_wp2_with fail
    exact bodyPost_ret (results_tmp rfl _ _ _) rfl ⟨by rw[EA.out];rfl,HN.2.1⟩
   ·have hrb:((r:Int)==65533)=false:=by simp;omega
    have hr2:(r != 65533)=true:=(by simpa using hr);have HR2:=Hd hr2;clear hr hr2;go_wp2_with fail
    go_roundg (s.size-(pos+wd))
    case measure=>omega
    case rel=>exact⟨pos+wd,HN.2.2,Om,HN.2.1,by
     have:=HN.1;rw[HR2.out,Bool.true_and]at this
     exact this⟩
  ·have hnx:=λty=>Vz (P:=Tryz.prog) HI.out ty hp
   have hszl:s.data.toList.length=s.size:=by rw[Array.length_toList];rfl
   have EA:Hid (ANS=true):=by
    show _=_;have:=HA.out;rw[List.drop_eq_nil_of_le Om]at this;exact this.symm
   clear hszl;by_cases h3:s.size<=300
   ·go_wp2_with fail
    first|go_ret|go_ret2
    exact⟨Zh (by rw[EA.out];simp;omega),HX⟩
   ·go_wp2_with fail
    first|go_ret|go_ret2
    exact⟨Zh (by rw[EA.out];simp;omega),HX⟩
end
end Go.Proofs.YtlfoalomaofejaaGreatDoor
