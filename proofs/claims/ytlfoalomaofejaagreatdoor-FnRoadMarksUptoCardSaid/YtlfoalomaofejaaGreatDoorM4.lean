/- laws.within, clean, few: what  -/
import Derived.Test.YtlfoalomaofejaaGreatDoorM3
import Derived.Test.YtlfoalomaofejaaGreatDoorCards
set_option linter.all false
set_option maxRecDepth 100000
set_option maxHeartbeats 2000000
namespace Go.Proofs.YtlfoalomaofejaaGreatDoor
section
open Go.RowKit DT
def inB(s:ByteArray)(c:UInt8):Bool:=s.data.toList.contains c
def Wk(s:ByteArray):Bool:=!inB s 0
def Nm(xs:List ByteArray):Bool:=xs.all Wk
def total(xs:List ByteArray):Nat:=(xs.map λs=>s.size+1).sum
def Og(h:List (List ByteArray)):Bool:=decide ((h.map total).sum<=4000)
theorem Zoo(s:ByteArray)(i:Nat)(h:i<s.size):s.data.toList[i]?=some s[i]:=by
 rw[Array.getElem?_toList];exact Array.getElem?_eq_getElem h
theorem Zcj(s:ByteArray)(c:UInt8)(w:World)(U:s.size<=9223372036854775807):Calls Tryz.prog 44 #[.string s,.int .u8 c.toNat] w λe w'=>e=.returned (.bool (inB s c))/\w=w':=by
 go_enter Tryz.func44,Tryz.ntmps44
 go_wp2_with fail
 go_loop [8] (λi=>∃ k:Nat,k<=s.size/\i=.int .i64 k/\Hid (∀ j (h:j<s.size),j<k->s[j]≠c)) (λi=>s.size-(intOf i).toNat)
 case atStart=>exact⟨0,Nat.zero_le _,rfl,λj _ h=>Om⟩
 case round =>
  obtain⟨k,V,rfl,L⟩:=hrel;by_cases I:k<s.size
  ·have z:(k:Int)<s.size:=Om;by_cases G:s[k]=c
   ·have J:((s[k].toNat:Int)==(c.toNat:Int))=true:=by rw[G];simp
    go_wp2_with fail
    go_ret;refine⟨Zh ?_,rfl⟩;unfold inB;rw[List.contains_iff_mem.2 (G▸List.mem_of_getElem? (Zoo s k I))]
   ·have J:((s[k].toNat:Int)==(c.toNat:Int))=false:=by
     simp only[beq_eq_false_iff_ne,ne_eq,Int.natCast_inj];exact λe=>G (UInt8.toNat_inj.1 e)
    go_wp2_with fail
    go_round
    case rel=>exact⟨k+1,Om,by go_num,λj h1 h2=>by
     rcases Nat.lt_or_ge j k with q|q
     ·exact L.out j h1 q
     ·have:j=k:=Om
      subst this;exact G⟩
    case measure=>simp[intOf];omega
  ·have z:¬ (k:Int)<s.size:=Om;go_wp2_with fail
   go_ret;refine⟨Zh ?_,rfl⟩;unfold inB;rw[eq_comm,Bool.eq_false_iff];intro M;obtain⟨j,K,e⟩:=List.getElem_of_mem (List.contains_iff_mem.1 M);have A:j<s.size:=(by simpa using K);exact L.out j A Om (by have:=Zoo s j A;rw[Ge K]at this;rw[<- Option.some.inj this];exact e)
theorem Ea(w:World)(O:Nat->Prop)(A:Option Addr)(c:Nat)(xs:List ByteArray)(h:Ty.str.At w O A xs) :
  Calls Tryz.prog 41 #[.slice A xs.length c] w λe w'=>e=.returned (.bool (Nm xs))/\w=w':=by
 have X:=h.1;have U:=Hd h;clear h;have V:Hid (∀ (s:ByteArray) (W:World),s.size<=9223372036854775807->Calls Tryz.prog 44 #[.string s,.int .u8 0] W λe w'=>e=.returned (.bool (inB s 0))/\W=w'):=λs W L=>Zcj s 0 W L
 go_enter Tryz.func41,Tryz.ntmps41
 go_wp2_with fail
 go_loop [6] (λi=>∃ k:Nat,k<=xs.length/\i=.int .i64 k/\Hid ((xs.take k).all Wk=true)) (λi=>xs.length-(intOf i).toNat)
 case atStart=>exact⟨0,Nat.zero_le _,rfl,rfl⟩
 case round =>
  obtain⟨k,Y,rfl,J⟩:=hrel;by_cases z:k<xs.length
  ·obtain⟨b,o,rfl,_,M,Z,G⟩:=Uk U.out k z;have C:=Hd (V.out xs[k] w G);obtain⟨q,I⟩:∃ q,q=inB xs[k] 0:=⟨_,rfl⟩;have K:Wk xs[k] = !q:=by rw[I];rfl
   rw[<- I]at C;clear I;cases q
   ·go_wp2_with (go_at_call 44;refine C.out.mono ?_;rintro e w' ⟨rfl,rfl⟩)
    go_round
    case rel=>exact⟨k+1,Om,by go_num,Wg Wk _ _ z J.out K⟩
    case measure=>simp[intOf];omega
   ·go_wp2_with (go_at_call 44;refine C.out.mono ?_;rintro e w' ⟨rfl,rfl⟩)
    go_ret;exact⟨Zh (by unfold Nm;rw[Vc Wk _ _ z K]),rfl⟩
  ·go_wp2_with fail
   go_ret;exact⟨Zh (by unfold Nm;rw[List.take_of_length_le Om]at J;rw[J.out]),rfl⟩
theorem J0(xs:List ByteArray)(j:Nat)(h:j<xs.length):total (xs.take (j+1))=total (xs.take j)+(xs[j].size+1):=by
 unfold total;rw[List.take_succ_eq_append_getElem h,List.map_append,List.sum_append];simp
theorem Kd(l:List Nat)(j:Nat):(l.take j).sum<=l.sum:=by
 conv=>rhs;rw[<- List.take_append_drop j l,List.sum_append]
 omega
theorem Zh2(xs:List ByteArray)(j:Nat):total (xs.take j)<=total xs:=by
 unfold total;rw[List.map_take];exact Kd _ _
theorem Zh3(q:List (List ByteArray))(k:Nat)(h:k<q.length):((q.take (k+1)).map total).sum=((q.take k).map total).sum+total q[k]:=by
 rw[List.take_succ_eq_append_getElem h,List.map_append,List.sum_append];simp
theorem Znf(h:List (List ByteArray))(k:Nat):((h.take k).map total).sum<=(h.map total).sum:=by
 rw[List.map_take];exact Kd _ _
theorem Ze9(w:World)(O:Nat->Prop)(A:Option Addr)(c:Nat)(q:List (List ByteArray))(hm:q.length<=9223372036854775807)(J:(q.map total).sum<=4611686018427387904)
  (h:∀ k (hk:k<q.length),∃ b o M V,A=some ⟨b,o,none⟩/\b<w.heap.size/\w.cell? ⟨b,o+k,none⟩=some (.slice M q[k].length V)/\Ty.str.At w O M q[k]) :
  Calls Tryz.prog 45 #[.slice A q.length c] w λe w'=>e=.returned (.bool (Og q))/\w=w':=by
 have HN:=Hd h;have W:=Hd J;clear h J;go_enter Tryz.func45,Tryz.ntmps45
 go_wp2_with fail
 go_loop [3,8] (λn i=>∃ k S:Nat,k<=q.length/\i=.int .i64 k/\n=.int .i64 S/\Hid (S=((q.take k).map total).sum)) (λn i=>q.length-(intOf i).toNat)
 case atStart=>exact⟨0,0,Nat.zero_le _,rfl,rfl,rfl⟩
 case round =>
  obtain⟨k,S,hk,rfl,rfl,L⟩:=hrel;by_cases G:k<q.length
  ·obtain⟨b,o,M,V,rfl,aa,c0,hA⟩:=HN.out k G;have Z:=hA.1;have HA:=Hd hA
   have X:Hid (S+total q[k]=((q.take (k+1)).map total).sum/\S+total q[k]<=4611686018427387904):=by
    have h1:=Zh3 q k G;have h2:=Znf q (k+1);have h3:=W.out;have h4:=L.out;exact⟨Om,Om⟩
   clear L;generalize q[k]=xs at *;clear hA;go_wp2_with fail
   go_loop [3,16] (λn i=>∃ j T:Nat,j<=xs.length/\i=.int .i64 j/\n=.int .i64 (S+T:Nat)/\Hid (T=total (xs.take j))) (λn i=>xs.length-(intOf i).toNat)
   case atStart=>exact⟨0,0,Nat.zero_le _,rfl,rfl,rfl⟩
   case round =>
    obtain⟨j,T,hj,rfl,rfl,I⟩:=hrel;by_cases z:j<xs.length
    ·obtain⟨b',o',rfl,_,U,ab,Y⟩:=Uk HA.out j z
     have hT:S+T+(xs[j].size+1)<=4611686018427387904:=by
      have h1:=J0 xs j z;have h2:=Zh2 xs (j+1);have h3:=X.out.2;have h4:=I.out;omega
     have K:Hid (T+(xs[j].size+1)=total (xs.take (j+1))):=by
      have h1:=J0 xs j z;have h4:=I.out;show _=_;omega
     clear I;generalize xs[j]=s at *;go_wp2_with fail
     go_round
     case rel=>exact⟨j+1,T+(s.size+1),Om,by go_num,by go_num,K⟩
     case measure=>simp[intOf];omega
    ·have e:T=total xs:=(by rw[I.out,List.take_of_length_le Om]);subst e;go_wp2_with fail
     go_round
     case rel=>exact⟨k+1,S+total xs,Om,by go_num,by go_num,X.out.1⟩
     case measure=>simp[intOf];omega
  ·have e:S=(q.map total).sum:=(by rw[L.out,List.take_of_length_le Om]);subst e;have J:=W.out;go_wp2_with fail
   go_ret;exact⟨Zh (by unfold Og;simp;omega),rfl⟩
end
section
open Go.RowKit DT Go.Deep Go.Lib
def RdM{α:Type}(T:TypeId)(D:Ty α)(m:α->Nat):Prop:=∀ {H:Type} (enc:TypeId×Value->H) (w:World) (sp:Nat->Bool) (fuel:Nat) (cs:List Value) (x:DataW H×List MemPlace),DataW.trod enc Tryz.prog w 0 sp true fuel T cs=some x->∃ a,D.R w (λ_=>True) a cs/\m a<=Rows.uptoBulk x.1
theorem Zb3{H:Type}{d:DataW H}{l:List (DataW H)}(h:d∈l):Rows.uptoBulk d<=Rows.uptoBulkAll l:=by
 induction l with
 | nil=>cases h
 | cons x r ih =>
  simp only[Rows.uptoBulkAll];rcases List.mem_cons.1 h with e|e
  ·subst e;omega
  ·have:=ih e;omega
theorem Zb4{H:Type}(f:Nat->DataW H)(g:Nat->Nat):∀ l:List Nat,(∀ i∈l,g i<=Rows.uptoBulk (f i))->(l.map g).sum<=Rows.uptoBulkAll (l.map f)
 | [],_=>Nl 0
 | i::l,h=>by
  have h1:=h i (by simp);have h2:=Zb4 f g l (λj q=>h j (by simp[q]));simp only[List.map_cons,List.sum_cons,Rows.uptoBulkAll];omega
theorem Zel{α:Type}(m:α->Nat){x:α}:∀ {l:List α},x∈l->m x<=(l.map m).sum
 | y::l,h=>by
  rw[List.map_cons,List.sum_cons];rcases List.mem_cons.1 h with rfl|h
  ·omega
  ·have:=Zel m h;omega
theorem Zeo{T:TypeId}(z:Tryz.prog.underlying T=some .string):RdM T Ty.str (λs=>s.size+1):=by
 intro H enc w sp fuel cs x h;obtain⟨s,rfl,q,A⟩:=DataW.trod_string z h;unfold maxLen at A;refine⟨s,⟨rfl,Om⟩,?_⟩;subst q;simp only[Rows.uptoBulk,Array.length_toList];exact Nl _
theorem P9{α:Type}[Inhabited α]{T e:TypeId}{D:Ty α}{m:α->Nat}(ht:Tryz.prog.underlying T=some (.slice e))(hc:Tryz.prog.cellsOf e=D.sz)(hz:0<D.sz)(hd:RdM e D m):RdM T (Ty.slice D) (λxs=>(xs.map m).sum):=by
 intro H enc w sp fuel cs x h;rcases open_slice ht h with ⟨rfl,rfl⟩|⟨a,len,cap,X,n,A,Pl,rfl,_,hl,hm,K,rfl,U⟩
 ·exact⟨[],⟨none,0,rfl,Nl _,λ_=>rfl,by simp,.inl rfl⟩,Nat.zero_le _⟩
 ·have aa:len<=X:=by rw[K];split<;>omega
  unfold maxLen at hm
  obtain⟨f,M⟩:=choose_lt (α:=α) (n:=len) (p:=λi y=>(∃ q,w.cells? 0 (a.add (i*Tryz.prog.cellsOf e)) (Tryz.prog.cellsOf e)=some q/\D.R w (λ_=>True) y q)/\m y<=Rows.uptoBulk (A i)) (λi hi=>by
   obtain⟨q,h1,h2⟩:=U i Om;obtain⟨y,hy,hb⟩:=hd enc w sp n q _ h2
   exact⟨y,⟨q,h1,hy⟩,hb⟩)
  refine⟨(List.range len).map f,⟨some a,cap,by simp,by simpa using hl,(λe=>by cases e),by simp;omega,?_⟩,?_⟩
  ·by_cases h0:len=0
   ·left;subst h0;rfl
   right;obtain⟨b,o,z⟩:=a;obtain⟨⟨W,k1,Z⟩,_⟩:=M 0 Om;obtain⟨_,k4,Y⟩:=World.cells?_some k1;have ab:=D.len Z;have J:0<W.length:=Om;have G:=Y 0 Om;rw[Ge J]at G
   have I:z=none:=by
    have:=World.cell?_spot G;simpa [Addr.add] using this
   subst I
   have V:b<w.heap.size:=by
    have:=World.block_lt_of_cell? w _ G;simpa [Addr.add] using this
   refine⟨b,o,rfl,trivial,V,λi hi=>?_⟩;have L:i<len:=(by simpa using hi);obtain⟨⟨q,h1,h2⟩,_⟩:=M i L;obtain⟨_,h4,h5⟩:=World.cells?_some h1;refine⟨q,by simpa using h2,λj hj=>?_⟩;have:=h5 j Om;rw[Ge hj,hc]at this;rw[<- this];simp only[Go.WideShapes.add_plain]
  ·have:=Zb4 A (λi=>m (f i)) (List.range len) (λi hi=>(M i (List.mem_range.1 hi)).2);show (((List.range len).map f).map m).sum<=Rows.uptoBulk (.slice ((List.range len).map A) _);rw[List.map_map];show ((List.range len).map λi=>m (f i)).sum<=Rows.uptoBulk (.slice ((List.range len).map A) _);simp only[Rows.uptoBulk];omega
theorem Rk{T:TypeId}{q:Array Field}(V:Tryz.prog.underlying T=some (.struct q))(z:oneCellFields Tryz.prog q=true)(J:Tryz.prog.cellsOf T=q.size){H:Type}(enc:TypeId×Value->H)(w:World)(sp:Nat->Bool)(fuel:Nat)(cs:List Value)(x:DataW H×List MemPlace)(h:DataW.trod enc Tryz.prog w 0 sp true fuel T cs=some x) :
  ∃ xs:List (DataW H×List MemPlace),x.1=.agg (xs.map (·.1))/\xs.length=q.size/\cs.length=q.size/\∀ (i:Nat) (f:Field) (v:Value) (y:DataW H×List MemPlace),q[i]?=some f->cs[i]?=some v->xs[i]?=some y->∃ n,DataW.trod enc Tryz.prog w 0 sp true n f.type [v]=some y:=by
 obtain⟨xs,n,M,I,hl,G,A⟩:=DataW.trod_struct V h;subst I;refine⟨xs,rfl,G,by rw[hl,J],λi f v y K U L=>?_⟩;obtain⟨o,k⟩:=hone_of z i f K;have h1:=A i f K;rw[L,o,k]at h1;exact⟨n,by rw[<- Zm7 i v U];exact h1⟩
def N2(u:GRec):Nat:=total u.tokens+total u.yomi
theorem Zal:RdM 34 strs total:=P9 Tryz.underlying34 Kr (by decide) (Zeo Tryz.underlying9)
theorem Zep:RdM 70 tRec N2:=by
 intro H enc w sp fuel cs x h;obtain⟨xs,L,z,hl,q⟩:=Rk Tryz.underlying70 Kr Kr enc w sp fuel cs x h;obtain⟨v0,A,v2,v3,rfl⟩:=Zm5 hl;obtain⟨Y,X,W,V,rfl⟩:=Zm5 z;obtain⟨_,M⟩:=q 0 _ _ _ rfl rfl rfl;obtain⟨_,h1⟩:=q 1 _ _ _ rfl rfl rfl;obtain⟨_,h2⟩:=q 2 _ _ _ rfl rfl rfl;obtain⟨_,h3⟩:=q 3 _ _ _ rfl rfl rfl;obtain⟨a0,K⟩:=Ll Tryz.underlying9 enc w sp _ _ _ M;obtain⟨U,J,m1⟩:=Zal enc w sp _ _ _ h1;obtain⟨a2,I,Z⟩:=Zal enc w sp _ _ _ h2;obtain⟨a3,G⟩:=Ll Tryz.underlying9 enc w sp _ _ _ h3;refine⟨⟨a0,U,a2,a3⟩,⟨[v0],_,rfl,K,[A],_,rfl,J,[v2],[v3],rfl,I,G⟩,?_⟩;rw[L];simp only[List.map_cons,List.map_nil,Rows.uptoBulk,Rows.uptoBulkAll,N2];omega
theorem Zoi:RdM 30 tDict (λd=>(d.user.map N2).sum):=by
 intro H enc w sp fuel cs x h;obtain⟨xs,hx,J,hl,q⟩:=Rk Tryz.underlying30 Kr Kr enc w sp fuel cs x h;obtain⟨v0,W,v2,v3,v4,v5,V,U,M,v9,G,rfl⟩:=Cg hl;obtain⟨y0,y1,y2,y3,y4,y5,y6,y7,y8,y9,L,rfl⟩:=Cg J;obtain⟨_,h0⟩:=q 0 _ _ _ rfl rfl rfl;obtain⟨_,h1⟩:=q 1 _ _ _ rfl rfl rfl;obtain⟨_,h2⟩:=q 2 _ _ _ rfl rfl rfl;obtain⟨_,h3⟩:=q 3 _ _ _ rfl rfl rfl;obtain⟨_,h4⟩:=q 4 _ _ _ rfl rfl rfl;obtain⟨_,h5⟩:=q 5 _ _ _ rfl rfl rfl;obtain⟨_,h6⟩:=q 6 _ _ _ rfl rfl rfl;obtain⟨_,h7⟩:=q 7 _ _ _ rfl rfl rfl;obtain⟨_,h8⟩:=q 8 _ _ _ rfl rfl rfl;obtain⟨_,h9⟩:=q 9 _ _ _ rfl rfl rfl;obtain⟨_,K⟩:=q 10 _ _ _ rfl rfl rfl;obtain⟨a0,r0⟩:=Xt Tryz.underlying22 Kr (by decide) Zeq enc w sp _ _ _ h0;obtain⟨a1,r1⟩:=Ws Tryz.underlying3 enc w sp _ _ _ h1;obtain⟨a2,r2⟩:=Ws Tryz.underlying3 enc w sp _ _ _ h2;obtain⟨a3,r3⟩:=Xt Tryz.underlying23 Kr (by decide) (Ws Tryz.underlying3) enc w sp _ _ _ h3;obtain⟨a4,r4⟩:=Xt Tryz.underlying24 Kr (by decide) Zam enc w sp _ _ _ h4;obtain⟨a5,r5⟩:=Xt Tryz.underlying25 Kr (by decide) Zan enc w sp _ _ _ h5;obtain⟨a6,r6⟩:=Xt Tryz.underlying26 Kr (by decide) Ziy enc w sp _ _ _ h6;obtain⟨a7,Z⟩:=Xt Tryz.underlying27 Kr (by decide) Dt enc w sp _ _ _ h7;obtain⟨a8,Y⟩:=Xt Tryz.underlying27 Kr (by decide) Dt enc w sp _ _ _ h8;obtain⟨a9,X⟩:=Jj Tryz.underlying4 enc w sp _ _ _ h9;obtain⟨z,I,A⟩:=P9 Tryz.underlying28 Kr (by decide) Zep enc w sp _ _ _ K;refine⟨⟨a0,a1,a2,a3,a4,a5,a6,a7,a8,a9,z⟩,⟨[v0],_,rfl,r0,[W],_,rfl,r1,[v2],_,rfl,r2,[v3],_,rfl,r3,[v4],_,rfl,r4,[v5],_,rfl,r5,[V],_,rfl,r6,[U],_,rfl,Z,[M],_,rfl,Y,[v9],[G],rfl,X,I⟩,?_⟩;have A:(z.map N2).sum<=_:=A;rw[hx];show (z.map N2).sum<=_;simp only[List.map_cons,List.map_nil,Rows.uptoBulk,Rows.uptoBulkAll];omega
end
section
open Go.RowKit DT Go.Deep Go.Lib
theorem Zix:RdM 76 tMark (λm=>m.name.size+1):=by
 intro H enc w sp fuel cs x h;obtain⟨xs,K,q,hl,A⟩:=Rk Tryz.underlying76 Kr Kr enc w sp fuel cs x h;obtain⟨v0,G,rfl⟩:=Zjg hl;obtain⟨V,U,rfl⟩:=Zjg q;obtain⟨_,L⟩:=A 0 _ _ _ rfl rfl rfl;obtain⟨_,h1⟩:=A 1 _ _ _ rfl rfl rfl;obtain⟨a0,J,z⟩:=Zeo Tryz.underlying9 enc w sp _ _ _ L;obtain⟨M,I⟩:=Ws Tryz.underlying3 enc w sp _ _ _ h1;refine⟨⟨a0,M⟩,⟨[v0],[G],rfl,J,I⟩,?_⟩;have z:a0.size+1<=_:=z;show a0.size+1<=_;rw[K];simp only[List.map_cons,List.map_nil,Rows.uptoBulk,Rows.uptoBulkAll];omega
theorem Zgk:RdM 30 tDict (λd=>(d.user.map N2).sum+(d.meta0.map λm=>m.name.size+1).sum):=by
 intro H enc w sp fuel cs x h;obtain⟨xs,hx,J,hl,q⟩:=Rk Tryz.underlying30 Kr Kr enc w sp fuel cs x h;obtain⟨v0,Y,v2,v3,v4,v5,X,W,V,v9,G,rfl⟩:=Cg hl;obtain⟨y0,y1,y2,y3,y4,y5,y6,y7,y8,y9,U,rfl⟩:=Cg J;obtain⟨_,h0⟩:=q 0 _ _ _ rfl rfl rfl;obtain⟨_,h1⟩:=q 1 _ _ _ rfl rfl rfl;obtain⟨_,h2⟩:=q 2 _ _ _ rfl rfl rfl;obtain⟨_,h3⟩:=q 3 _ _ _ rfl rfl rfl;obtain⟨_,h4⟩:=q 4 _ _ _ rfl rfl rfl;obtain⟨_,h5⟩:=q 5 _ _ _ rfl rfl rfl;obtain⟨_,h6⟩:=q 6 _ _ _ rfl rfl rfl;obtain⟨_,h7⟩:=q 7 _ _ _ rfl rfl rfl;obtain⟨_,h8⟩:=q 8 _ _ _ rfl rfl rfl;obtain⟨_,h9⟩:=q 9 _ _ _ rfl rfl rfl;obtain⟨_,K⟩:=q 10 _ _ _ rfl rfl rfl;obtain⟨a0,r0⟩:=Xt Tryz.underlying22 Kr (by decide) Zeq enc w sp _ _ _ h0;obtain⟨a1,r1⟩:=Ws Tryz.underlying3 enc w sp _ _ _ h1;obtain⟨a2,r2⟩:=Ws Tryz.underlying3 enc w sp _ _ _ h2;obtain⟨a3,r3⟩:=Xt Tryz.underlying23 Kr (by decide) (Ws Tryz.underlying3) enc w sp _ _ _ h3;obtain⟨a4,r4⟩:=Xt Tryz.underlying24 Kr (by decide) Zam enc w sp _ _ _ h4;obtain⟨a5,r5⟩:=Xt Tryz.underlying25 Kr (by decide) Zan enc w sp _ _ _ h5;obtain⟨a6,r6⟩:=Xt Tryz.underlying26 Kr (by decide) Ziy enc w sp _ _ _ h6;obtain⟨L,r7,M⟩:=P9 Tryz.underlying27 Kr (by decide) Zix enc w sp _ _ _ h7;obtain⟨a8,r8⟩:=Xt Tryz.underlying27 Kr (by decide) Dt enc w sp _ _ _ h8;obtain⟨a9,Z⟩:=Jj Tryz.underlying4 enc w sp _ _ _ h9;obtain⟨z,I,A⟩:=P9 Tryz.underlying28 Kr (by decide) Zep enc w sp _ _ _ K;refine⟨⟨a0,a1,a2,a3,a4,a5,a6,L,a8,a9,z⟩,⟨[v0],_,rfl,r0,[Y],_,rfl,r1,[v2],_,rfl,r2,[v3],_,rfl,r3,[v4],_,rfl,r4,[v5],_,rfl,r5,[X],_,rfl,r6,[W],_,rfl,r7,[V],_,rfl,r8,[v9],[G],rfl,Z,I⟩,?_⟩;have A:(z.map N2).sum<=_:=A;have M:(L.map λm=>m.name.size+1).sum<=_:=M;rw[hx];show (z.map N2).sum+(L.map λm=>m.name.size+1).sum<=_;simp only[List.map_cons,List.map_nil,Rows.uptoBulk,Rows.uptoBulkAll];omega
end
end Go.Proofs.YtlfoalomaofejaaGreatDoor
