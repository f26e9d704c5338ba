/- laws.surfaces: the words' surf -/
import Derived.Test.YtlfoalomaofejaaGreatDoorM4
import Derived.Test.YtlfoalomaofejaaGreatDoorM21
import Derived.Test.YtlfoalomaofejaaGreatDoorM23
set_option linter.all false
set_option maxRecDepth 100000
set_option maxHeartbeats 2000000
namespace Go.Proofs.YtlfoalomaofejaaGreatDoor
section
open Go.RowKit DT SS TR LT
def Uv(d:Zg):List ByteArray:=d.words.map (λx=>x.surface)++d.user.map (λx=>x.text)
theorem Zat{w q wr:World}{B:Nat}(h:Zf w wr)(hB:w.heap.size<=B){T:TypeId}{k:Nat}{u:Value}{n:Nat}{xs:List Value}(z:wr.ownsRow B T k u n xs)(o p:Obj)(A:((wr.alloc o).alloc p).grownBy q u.ownBlock):Zf w q:=by
 have X:Zf w _:=(h.alloc o).alloc p;exact X.trans ((Fr.refl (λj=>u.ownBlock=some j) _).grown A (λk e _=>e)) (λj G e=>by have:=(z.lt j e).1;omega)
theorem Zef(w:World)(o:Obj)(u:Value)(T:TypeId):∀ j v,[u][j]?=some v->((w.alloc o).alloc (.cells #[u] T)).cell? ((⟨w.heap.size+1,0,none⟩:Addr).add j)=some v:=λj v h=>by
 have:=Z2 (w.alloc o) u (T:=T) j v h;rw[Za]at this;exact this
theorem Da(w:World)(O:Nat->Prop)(d:Zg)(cs:List Value)(h:tDict.R w O d cs)(hw:d.words.length<=1000)(hu:d.user.length<=1000) :
  Calls Tryz.prog 55 #[.agg cs.toArray] w λe w'=>∃ v,e=.returned v/\w'.ownsRow (w.heap.size+1) 9 1 v (Uv d).length ((Uv d).map Value.string)/\Zf w w':=by
 obtain⟨A1,c1,A2,c2,A3,c3,A4,c4,A5,c5,A6,c6,A7,c7,A8,c8,rfl,h1,h2,h3,h4,h5,h6,h7,h8,_⟩:=Y4 h;obtain⟨is,ad,ac,ab,aa⟩:=info_parts V5;obtain⟨n,hn⟩:∃ n,n=d.words.length:=⟨_,rfl⟩;obtain⟨m,hm⟩:∃ n,n=d.user.length:=⟨_,rfl⟩;have HW:=Hd h1.2.2;have HU:=Hd h8.2.2;have Z:=Hd (Ai1 hn hm);have B0:=alloc_at w (.cells #[.slice A1 d.words.length c1,.int .i64 d.rows,.int .i64 d.cols,.slice A2 d.costs.length c2,.slice A3 d.classes.length c3,.slice A4 d.chars.length c4,.slice A5 d.unknown.length c5,.slice A6 d.meta0.length c6,.slice A7 d.unkMeta.length c7,.bool d.hasUser,.slice A8 d.user.length c8] 30);have k0:=cellAt B0 0 (.slice A1 d.words.length c1) rfl;have U:=cellAt B0 10 (.slice A8 d.user.length c8) rfl;have X0:=(Fe w).alloc (.cells #[.slice A1 d.words.length c1,.int .i64 d.rows,.int .i64 d.cols,.slice A2 d.costs.length c2,.slice A3 d.classes.length c3,.slice A4 d.chars.length c4,.slice A5 d.unknown.length c5,.slice A6 d.meta0.length c6,.slice A7 d.unkMeta.length c7,.bool d.hasUser,.slice A8 d.user.length c8] 30);have L:=Za w (.cells #[.slice A1 d.words.length c1,.int .i64 d.rows,.int .i64 d.cols,.slice A2 d.costs.length c2,.slice A3 d.classes.length c3,.slice A4 d.chars.length c4,.slice A5 d.unknown.length c5,.slice A6 d.meta0.length c6,.slice A7 d.unkMeta.length c7,.bool d.hasUser,.slice A8 d.user.length c8] 30);have Y:=Hd (Ai1 X0 (Ai1 U L));rw[<- hn]at hw;rw[<- hm]at hu;rw[<- hn,<- hm]at k0 U Y⊢;clear h h1 h2 h3 h4 h5 h6 h7 h8 hn hm X0 B0 U L;go_enter Tryz.func55,Tryz.ntmps55
 go_wp2_with fail
 generalize w.alloc _=K at *
 go_loopg [3,11] n (λg1 v3 af wr=>∃ (i:Nat) (u:Value),v3=u/\af=.int .i64 (i:Int)/\i<=n/\n<=i+g1/\Hid (wr.ownsRow K.heap.size 9 1 u i (((d.words.take i).map λx=>x.surface).map Value.string)/\Zf K wr))
 case atStart=>exact⟨0,_,rfl,rfl,Om,Om,World.ownsRow_nil _ _ _ _,Fl _⟩
 case round =>
  obtain⟨i,u,rfl,rfl,hi,hg,M⟩:=hrel;by_cases V:i<n
  ·have ai:(i:Int)<(n:Int):=Om;have L:(0:Int)<=(i:Int):=Om;have I:i<d.words.length:=by rw[<- Z.out.1];exact V
   obtain⟨b,o,p,q,rfl,_,aj,⟨Ap,cp,ep,_,_,_⟩,⟨Aq,cq,eq,_,_,_⟩,ah,e0,e1,e2,e3,e4,e5⟩:=Ji HW.out i I;cases ep;cases eq;have J:=Y.out.1.trans M.out.2 (λ_ _ e=>e);have q0:=J.cell e0 id;have q1:=J.cell e1 id;have q2:=J.cell e2 id;have q3:=J.cell e3 id;have q4:=J.cell e4 id;have q5:=J.cell e5 id
   have HT:Hid (((d.words.take (i+1)).map λx=>x.surface).map Value.string=((d.words.take i).map λx=>x.surface).map Value.string++[.string d.words[i].surface]):=by
    show _=_;rw[List.take_succ_eq_append_getElem I,List.map_append,List.map_append];rfl
   have ag:K.heap.size<=wr.heap.size:=M.out.2.size;clear J e0 e1 e2 e3 e4 e5;generalize d.words[i]=x at *;clear I
   go_wp2_with (first
    | (at_builtin;refine wpList_append_own_at _ rfl _ _ 34 rfl K.heap.size 9 is _ 1 16 Tryz.underlying34 ad ac ab aa rfl (by decide) u3 i _ rfl ((M.out.1.alloc _).alloc _) ⟨wr.heap.size+1,0,none⟩ 1 1 [.string x.surface] rfl rfl (Zef _ _ _ _) (by intro x hx;rw[List.mem_singleton.1 hx];rfl) (by unfold maxLen;omega) Om (by simp;omega) ?_;intro v' w7 z A G W;have HE:=Hd (Ai1 z (Zat M.out.2 (Nl _) M.out.1 _ _ A));clear z A G W)
    | fail)
   go_roundg (n-(i+1))
   case measure=>omega
   case rel=>exact⟨i+1,v',rfl,by go_num,Om,Om,by rw[HT.out];exact HE.out.1,HE.out.2⟩
  ·obtain rfl:i=n:=Om
   have ae:Hid (wr.ownsRow K.heap.size 9 1 u3 i ((d.words.map λx=>x.surface).map Value.string)/\Zf K wr):=⟨by have:=M.out.1;rw[Z.out.1,List.take_length,<- Z.out.1]at this;exact this,M.out.2⟩;have ak:=M.out.2.cell Y.out.2.1 id;clear M;go_wp2_with fail
   go_loopg [3,24] m (λg1 v3 v24 wr=>∃ (j:Nat) (u:Value),v3=u/\v24=.int .i64 (j:Int)/\j<=m/\m<=j+g1/\Hid (wr.ownsRow K.heap.size 9 1 u (i+j) ((d.words.map λx=>x.surface).map Value.string++((d.user.take j).map λx=>x.text).map Value.string)/\Zf K wr))
   case atStart=>exact⟨0,_,rfl,rfl,Om,Om,by simpa using ae.out.1,ae.out.2⟩
   case round =>
    obtain⟨j,u,rfl,rfl,hj,al,X⟩:=hrel;by_cases V:j<m
    ·have ai:(j:Int)<(m:Int):=Om;have L:(0:Int)<=(j:Int):=Om;have I:j<d.user.length:=by rw[<- Z.out.2];exact V
     obtain⟨b,o,p,q,rfl,_,aj,⟨Ap,cp,ep,_,_,_⟩,⟨Aq,cq,eq,_,_,_⟩,ah,_,e0,e1,e2,e3⟩:=Dq HU.out j I;cases ep;cases eq;have J:=Y.out.1.trans X.out.2 (λ_ _ e=>e);have q0:=J.cell e0 id;have q1:=J.cell e1 id;have q2:=J.cell e2 id;have q3:=J.cell e3 id
     have HT:Hid (((d.words.map λx=>x.surface).map Value.string++((d.user.take (j+1)).map λx=>x.text).map Value.string)=((d.words.map λx=>x.surface).map Value.string++((d.user.take j).map λx=>x.text).map Value.string)++[.string d.user[j].text]):=by
      show _=_;rw[List.take_succ_eq_append_getElem I,List.map_append,List.map_append,<- List.append_assoc];rfl
     have ag:K.heap.size<=wr.heap.size:=X.out.2.size;clear J e0 e1 e2 e3;generalize d.user[j]=x at *;clear I
     go_wp2_with (first
      | (at_builtin;refine wpList_append_own_at _ rfl _ _ 34 rfl K.heap.size 9 is _ 1 16 Tryz.underlying34 ad ac ab aa rfl (by decide) u3 (i+j) _ rfl ((X.out.1.alloc _).alloc _) ⟨wr.heap.size+1,0,none⟩ 1 1 [.string x.text] rfl rfl (Zef _ _ _ _) (by intro x hx;rw[List.mem_singleton.1 hx];rfl) (by unfold maxLen;omega) Om (by simp;omega) ?_;intro v' w7 z A G W;have HE:=Hd (Ai1 z (Zat X.out.2 (Nl _) X.out.1 _ _ A));clear z A G W)
      | fail)
     go_roundg (m-(j+1))
     case measure=>omega
     case rel=>exact⟨j+1,v',rfl,by go_num,Om,Om,by rw[HT.out];exact HE.out.1,HE.out.2⟩
    ·obtain rfl:j=m:=Om
     go_wp2_with fail
     first|go_ret|go_ret2
     refine⟨_,rfl,?_,Y.out.1.trans X.out.2 (λ_ _ e=>e)⟩;have:=X.out.1;rw[Z.out.2,List.take_length,Y.out.2.2,Z.out.1]at this;unfold Uv;rw[List.length_append,List.length_map,List.length_map,List.map_append];exact this
end
section
open Go.RowKit LT UC Go.Lib
def rdB(s:ByteArray):Bool:=(Zd s).all (λc=>Xi c != 65533)&&decide (s.size<=300)
theorem P8{l:List UInt8}(q:l≠[]):Xi (l.take (decodeL l).2)=(decodeL l).1:=by
 by_cases z:(decodeL l).1=65533/\(decodeL l).2=1
 ·rw[z.1,z.2]
  cases l with
  | nil=>exact absurd rfl q
  | cons b t =>
   show (decodeL [b]).1=65533;have h:=z.1;have h2:=z.2;rw[decodeL_N]at h h2⊢;simp only[List.getD_cons_zero]at h h2⊢;unfold decodeN;by_cases A:b.toNat<128
   ·unfold decodeN at h;rw[if_pos A]at h;simp only at h;omega
   ·rw[if_neg A,if_neg (by simp),if_neg (by simp),if_neg (by simp)]
 ·exact congrArg Prod.fst (Ss q z).2
theorem Du{l:List UInt8}:∀ n,l.length<=n->(∀ c∈Xl l,Xi c≠65533)->∀ c∈Xl l,UC.Good c/\Xi c≠65533:=by
 intro n
 induction n generalizing l with
 | zero =>
  intro hl _ c z;have:l=[]:=List.eq_nil_of_length_eq_zero Om;subst this;cases z
 | succ n ih =>
  intro hl h c z;by_cases q:l=[]
  ·subst q;cases z
  ·rw[chunk_step l q]at h z;have A:=h (l.take (decodeL l).2) (by simp);rcases List.mem_cons.1 z with rfl|z
   ·refine⟨(Ss q (λe=>?_)).1,A⟩;rw[P8 q]at A;exact A e.1
   ·refine ih (l:=l.drop (decodeL l).2) ?_ (λc z=>h c (by simp[z])) c z;rw[List.length_drop]
    have I:1<=(decodeL l).2:=by
     rcases Nat.eq_zero_or_pos (decodeL l).2 with e|e
     ·exfalso;have:(l.take (decodeL l).2)=[]:=by rw[e];rfl
      by_cases G:(decodeL l).1=65533/\(decodeL l).2=1
      ·omega
      ·exact (Ss q G).1.1 this
     ·exact e
    omega
theorem Zlr(s:ByteArray):rdB s=true↔Rd s/\s.size<=300:=by
 unfold rdB;rw[Bool.and_eq_true,List.all_eq_true,decide_eq_true_eq];constructor
 ·rintro⟨h1,h2⟩;exact⟨Du _ (Nl _) (λc h=>by simpa using h1 c h),h2⟩
 ·rintro⟨h1,h2⟩;exact⟨λc h=>by simpa using (h1 c h).2,h2⟩
theorem Dr(s:ByteArray)(w:World)(hs:s.size<=9223372036854775807):Calls Tryz.prog 40 #[.string s] w λe w'=>e=.returned (.bool (rdB s))/\Zf w w':=by
 obtain⟨z,q⟩:∃ A,A=(Zd s).all λc=>Xi c != 65533:=⟨_,rfl⟩
 have hk:rdB s=(z&&decide (s.size<=300)):=by rw[q];rfl
 have W:=Hd q;rw[hk];clear q hk;go_enter Tryz.func40,Tryz.ntmps40
 go_wp2_with fail
 obtain⟨b,hb⟩:∃ b,b=w.heap.size:=⟨_,rfl⟩;rw[<- hb];have HB:=Hd hb;clear hb
 go_loopg [] s.size (λg1 wr=>∃ pos:Nat,Hid (wr.heap[b]?=some (.stringIter s pos))/\s.size<=pos+g1/\Hid (Zf w wr)/\Hid ((Xl (s.data.toList.drop pos)).all (λc=>Xi c != 65533)=z))
 case atStart=>exact⟨0,by rw[HB.out];exact World.iter_heap w s 0,Om,(Fl _).alloc _,W.symm⟩
 case round =>
  obtain⟨pos,HI,hg,HX,HA⟩:=hrel;by_cases hp:pos<s.size
  ·have I:=λty=>Pm (P:=Tryz.prog) HI.out ty hp
   have h:s.data.toList.length=s.size:=by rw[Array.length_toList];rfl
   have J:s.data.toList.drop pos≠[]:=by
    intro e;have:=congrArg List.length e;rw[List.length_drop,h]at this;simp at this;omega
   have K:=chunk_step _ J;have G:=P8 J;rw[decodeL_drop,List.drop_drop]at K;rw[decodeL_drop]at G;have hA:=HA.out;rw[K,List.all_cons,G]at hA;have L:=Lib.width_pos s pos;have M:=Lib.rune_le s pos;have Y:Zf w (Wi wr b s (pos+(Utf8.decode s pos).2)):=HX.out.trans (Tn wr b s _) (λj hj e=>by have:=HB.out;omega);have Z:=Pu (pos+(Utf8.decode s pos).2) HI.out;clear K G J h;generalize Utf8.decode s pos=dp at I hA L M Y Z;obtain⟨r,wd⟩:=dp;simp only at I hA L M Y Z;have V:=Hd (Ai1 hA (Ai1 Y Z));clear hA Y Z;by_cases X:r=65533
   ·have aa:((r:Int)==65533)=true:=by simp;omega
    have EA:Hid (z=false):=by show _=_;rw[<- V.1,X];rfl
    clear X;go_wp2_with fail
    exact bodyPost_ret (results_tmp rfl _ _ _) rfl ⟨by rw[EA.out];rfl,V.2.1⟩
   ·have aa:((r:Int)==65533)=false:=by simp;omega
    have U:(r != 65533)=true:=(by simpa using X);have ab:=Hd U;clear X U;go_wp2_with fail
    go_roundg (s.size-(pos+wd))
    case measure=>omega
    case rel=>exact⟨pos+wd,V.2.2,Om,V.2.1,by
     have:=V.1;rw[ab.out,Bool.true_and]at this
     exact this⟩
  ·have I:=λty=>V4 (P:=Tryz.prog) HI.out ty hp
   have h:s.data.toList.length=s.size:=by rw[Array.length_toList];rfl
   have EA:Hid (z=true):=by
    show _=_;have:=HA.out;rw[List.drop_eq_nil_of_le Om]at this;exact this.symm
   clear h;by_cases h3:s.size<=300
   ·go_wp2_with fail
    first|go_ret|go_ret2
    exact⟨Zh (by rw[EA.out];simp;omega),HX⟩
   ·go_wp2_with fail
    first|go_ret|go_ret2
    exact⟨Zh (by rw[EA.out];simp;omega),HX⟩
end
end Go.Proofs.YtlfoalomaofejaaGreatDoor
