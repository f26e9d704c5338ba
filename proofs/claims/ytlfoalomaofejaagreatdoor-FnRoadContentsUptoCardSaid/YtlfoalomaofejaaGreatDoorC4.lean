/- laws.within, clean, few: what  -/
import Derived.Test.YtlfoalomaofejaaGreatDoorC3
import Derived.Test.YtlfoalomaofejaaGreatDoorCards
import Derived.Laws.AppendOwn
set_option linter.all false
set_option maxRecDepth 100000
set_option maxHeartbeats 2000000
namespace Go.Proofs.YtlfoalomaofejaaGreatDoor
section
open Go.RowKit DT
def inB(s:ByteArray)(c:UInt8):Bool:=s.data.toList.contains c
def Wf(s:ByteArray):Bool:=!inB s 0
def O9(xs:List ByteArray):Bool:=xs.all Wf
def total(xs:List ByteArray):Nat:=(xs.map λs=>s.size+1).sum
def Sh(ls:List (List ByteArray)):Bool:=decide ((ls.map total).sum<=4000)
theorem Znl(s:ByteArray)(i:Nat)(h:i<s.size):s.data.toList[i]?=some s[i]:=by
 rw[Array.getElem?_toList];exact Array.getElem?_eq_getElem h
theorem Oj(s:ByteArray)(c:UInt8)(w:World)(hs:s.size<=9223372036854775807):Calls Tryz.prog 44 #[.string s,.int .u8 c.toNat] w λe w'=>e=.returned (.bool (inB s c))/\w=w':=by
 go_enter Tryz.func44,Tryz.ntmps44
 go_wp2_with fail
 go_loop [8] (λi=>∃ k:Nat,k<=s.size/\i=.int .i64 k/\Hid (∀ j (h:j<s.size),j<k->s[j]≠c)) (λi=>s.size-(intOf i).toNat)
 case atStart=>exact⟨0,Nat.zero_le _,rfl,λj _ h=>Om⟩
 case round =>
  obtain⟨k,hk,rfl,HZ⟩:=hrel;by_cases hlt:k<s.size
  ·have hltz:(k:Int)<s.size:=Om;by_cases h0:s[k]=c
   ·have h0z:((s[k].toNat:Int)==(c.toNat:Int))=true:=by rw[h0];simp
    go_wp2_with fail
    go_ret;refine⟨Zh ?_,rfl⟩;unfold inB;rw[List.contains_iff_mem.2 (h0▸List.mem_of_getElem? (Znl s k hlt))]
   ·have h0z:((s[k].toNat:Int)==(c.toNat:Int))=false:=by
     simp only[beq_eq_false_iff_ne,ne_eq,Int.natCast_inj];exact λe=>h0 (UInt8.toNat_inj.1 e)
    go_wp2_with fail
    go_round
    case rel=>exact⟨k+1,Om,by go_num,λj h1 h2=>by
     rcases Nat.lt_or_ge j k with q|q
     ·exact HZ.out j h1 q
     ·have:j=k:=Om
      subst this;exact h0⟩
    case measure=>simp[intOf];omega
  ·have hltz:¬ (k:Int)<s.size:=Om;go_wp2_with fail
   go_ret;refine⟨Zh ?_,rfl⟩;unfold inB;rw[eq_comm,Bool.eq_false_iff];intro hm;obtain⟨j,hj,e⟩:=List.getElem_of_mem (List.contains_iff_mem.1 hm);have hj':j<s.size:=(by simpa using hj);exact HZ.out j hj' Om (by have:=Znl s j hj';rw[Ge hj]at this;rw[<- Option.some.inj this];exact e)
theorem Fa(w:World)(O:Nat->Prop)(A:Option Addr)(c:Nat)(xs:List ByteArray)(h:Ty.str.At w O A xs) :
  Calls Tryz.prog 41 #[.slice A xs.length c] w λe w'=>e=.returned (.bool (O9 xs))/\w=w':=by
 have hm:=h.1;have HN:=Hd h;clear h;have CW:Hid (∀ (s:ByteArray) (W:World),s.size<=9223372036854775807->Calls Tryz.prog 44 #[.string s,.int .u8 0] W λe w'=>e=.returned (.bool (inB s 0))/\W=w'):=λs W hs=>Oj s 0 W hs
 go_enter Tryz.func41,Tryz.ntmps41
 go_wp2_with fail
 go_loop [6] (λi=>∃ k:Nat,k<=xs.length/\i=.int .i64 k/\Hid ((xs.take k).all Wf=true)) (λi=>xs.length-(intOf i).toNat)
 case atStart=>exact⟨0,Nat.zero_le _,rfl,rfl⟩
 case round =>
  obtain⟨k,hk,rfl,HA⟩:=hrel;by_cases hlt:k<xs.length
  ·obtain⟨b,o,rfl,_,hbl,c0,hsz⟩:=Vw HN.out k hlt;have C:=Hd (CW.out xs[k] w hsz);obtain⟨q,hq⟩:∃ q,q=inB xs[k] 0:=⟨_,rfl⟩;have hn:Wf xs[k] = !q:=by rw[hq];rfl
   rw[<- hq]at C;clear hq;cases q
   ·go_wp2_with (go_at_call 44;refine C.out.mono ?_;rintro e w' ⟨rfl,rfl⟩)
    go_round
    case rel=>exact⟨k+1,Om,by go_num,Ys Wf _ _ hlt HA.out hn⟩
    case measure=>simp[intOf];omega
   ·go_wp2_with (go_at_call 44;refine C.out.mono ?_;rintro e w' ⟨rfl,rfl⟩)
    go_ret;exact⟨Zh (by unfold O9;rw[Y5 Wf _ _ hlt hn]),rfl⟩
  ·go_wp2_with fail
   go_ret;exact⟨Zh (by unfold O9;rw[List.take_of_length_le Om]at HA;rw[HA.out]),rfl⟩
theorem Jg(xs:List ByteArray)(j:Nat)(h:j<xs.length):total (xs.take (j+1))=total (xs.take j)+(xs[j].size+1):=by
 unfold total;rw[List.take_succ_eq_append_getElem h,List.map_append,List.sum_append];simp
theorem Lw(l:List Nat)(j:Nat):(l.take j).sum<=l.sum:=by
 conv=>rhs;rw[<- List.take_append_drop j l,List.sum_append]
 omega
theorem Zgz(xs:List ByteArray)(j:Nat):total (xs.take j)<=total xs:=by
 unfold total;rw[List.map_take];exact Lw _ _
theorem Zg0(ls:List (List ByteArray))(k:Nat)(h:k<ls.length):((ls.take (k+1)).map total).sum=((ls.take k).map total).sum+total ls[k]:=by
 rw[List.take_succ_eq_append_getElem h,List.map_append,List.sum_append];simp
theorem Zmf(ls:List (List ByteArray))(k:Nat):((ls.take k).map total).sum<=(ls.map total).sum:=by
 rw[List.map_take];exact Lw _ _
theorem Dm(w:World)(O:Nat->Prop)(A:Option Addr)(c:Nat)(ls:List (List ByteArray))(hm:ls.length<=9223372036854775807)(hz:(ls.map total).sum<=4611686018427387904)
  (h:∀ k (hk:k<ls.length),∃ b o Ak ck,A=some ⟨b,o,none⟩/\b<w.heap.size/\w.cell? ⟨b,o+k,none⟩=some (.slice Ak ls[k].length ck)/\Ty.str.At w O Ak ls[k]) :
  Calls Tryz.prog 45 #[.slice A ls.length c] w λe w'=>e=.returned (.bool (Sh ls))/\w=w':=by
 have HN:=Hd h;have HZ:=Hd hz;clear h hz;go_enter Tryz.func45,Tryz.ntmps45
 go_wp2_with fail
 go_loop [3,8] (λn i=>∃ k S:Nat,k<=ls.length/\i=.int .i64 k/\n=.int .i64 S/\Hid (S=((ls.take k).map total).sum)) (λn i=>ls.length-(intOf i).toNat)
 case atStart=>exact⟨0,0,Nat.zero_le _,rfl,rfl,rfl⟩
 case round =>
  obtain⟨k,S,hk,rfl,rfl,HS⟩:=hrel;by_cases hlt:k<ls.length
  ·obtain⟨b,o,Ak,ck,rfl,hbl,c0,hA⟩:=HN.out k hlt;have hml:=hA.1;have HA:=Hd hA
   have HB:Hid (S+total ls[k]=((ls.take (k+1)).map total).sum/\S+total ls[k]<=4611686018427387904):=by
    have h1:=Zg0 ls k hlt;have h2:=Zmf ls (k+1);have h3:=HZ.out;have h4:=HS.out;exact⟨Om,Om⟩
   clear HS;generalize ls[k]=xs at *;clear hA;go_wp2_with fail
   go_loop [3,16] (λn i=>∃ j T:Nat,j<=xs.length/\i=.int .i64 j/\n=.int .i64 (S+T:Nat)/\Hid (T=total (xs.take j))) (λn i=>xs.length-(intOf i).toNat)
   case atStart=>exact⟨0,0,Nat.zero_le _,rfl,rfl,rfl⟩
   case round =>
    obtain⟨j,T,hj,rfl,rfl,HT⟩:=hrel;by_cases hltj:j<xs.length
    ·obtain⟨b',o',rfl,_,hbl',c0',hsz⟩:=Vw HA.out j hltj
     have hT:S+T+(xs[j].size+1)<=4611686018427387904:=by
      have h1:=Jg xs j hltj;have h2:=Zgz xs (j+1);have h3:=HB.out.2;have h4:=HT.out;omega
     have HT':Hid (T+(xs[j].size+1)=total (xs.take (j+1))):=by
      have h1:=Jg xs j hltj;have h4:=HT.out;show _=_;omega
     clear HT;generalize xs[j]=s at *;go_wp2_with fail
     go_round
     case rel=>exact⟨j+1,T+(s.size+1),Om,by go_num,by go_num,HT'⟩
     case measure=>simp[intOf];omega
    ·have e:T=total xs:=(by rw[HT.out,List.take_of_length_le Om]);subst e;go_wp2_with fail
     go_round
     case rel=>exact⟨k+1,S+total xs,Om,by go_num,by go_num,HB.out.1⟩
     case measure=>simp[intOf];omega
  ·have e:S=(ls.map total).sum:=(by rw[HS.out,List.take_of_length_le Om]);subst e;have hz:=HZ.out;go_wp2_with fail
   go_ret;exact⟨Zh (by unfold Sh;simp;omega),rfl⟩
end
section
open Go.RowKit DT Go.Deep Go.Lib
def RdM{α:Type}(T:TypeId)(D:Ty α)(m:α->Nat):Prop:=∀ {H:Type} (enc:TypeId×Value->H) (w:World) (sp:Nat->Bool) (fuel:Nat) (cs:List Value) (x:DataW H×List MemPlace),DataW.trod enc Tryz.prog w 0 sp true fuel T cs=some x->∃ a,D.R w (λ_=>True) a cs/\m a<=Rows.uptoBulk x.1
theorem Zjg{H:Type}{d:DataW H}{l:List (DataW H)}(h:d∈l):Rows.uptoBulk d<=Rows.uptoBulkAll l:=by
 induction l with
 | nil=>cases h
 | cons x r ih =>
  simp only[Rows.uptoBulkAll];rcases List.mem_cons.1 h with e|e
  ·subst e;omega
  ·have:=ih e;omega
theorem Zbh{H:Type}(f:Nat->DataW H)(g:Nat->Nat):∀ l:List Nat,(∀ i∈l,g i<=Rows.uptoBulk (f i))->(l.map g).sum<=Rows.uptoBulkAll (l.map f)
 | [],_=>Nl 0
 | i::l,h=>by
  have h1:=h i (by simp);have h2:=Zbh f g l (λj hj=>h j (by simp[hj]));simp only[List.map_cons,List.sum_cons,Rows.uptoBulkAll];omega
theorem Zdp{α:Type}(m:α->Nat){x:α}:∀ {l:List α},x∈l->m x<=(l.map m).sum
 | y::l,h=>by
  rw[List.map_cons,List.sum_cons];rcases List.mem_cons.1 h with rfl|h
  ·omega
  ·have:=Zdp m h;omega
theorem Zkt{T:TypeId}(ht:Tryz.prog.underlying T=some .string):RdM T Ty.str (λs=>s.size+1):=by
 intro H enc w sp fuel cs x h;obtain⟨s,rfl,hx,hs⟩:=DataW.trod_string ht h;unfold maxLen at hs;refine⟨s,⟨rfl,Om⟩,?_⟩;subst hx;simp only[Rows.uptoBulk,Array.length_toList];exact Nl _
theorem Ga{α:Type}[Inhabited α]{T e:TypeId}{D:Ty α}{m:α->Nat}(ht:Tryz.prog.underlying T=some (.slice e))(hc:Tryz.prog.cellsOf e=D.sz)(hz:0<D.sz)(hd:RdM e D m):RdM T (Ty.slice D) (λxs=>(xs.map m).sum):=by
 intro H enc w sp fuel cs x h;rcases open_slice ht h with ⟨rfl,rfl⟩|⟨a,len,cap,mm,n,Dd,Pl,rfl,_,hl,hm,hmm,rfl,hel⟩
 ·exact⟨[],⟨none,0,rfl,Nl _,λ_=>rfl,by simp,.inl rfl⟩,Nat.zero_le _⟩
 ·have hlm:len<=mm:=by rw[hmm];split<;>omega
  unfold maxLen at hm
  obtain⟨f,hf⟩:=choose_lt (α:=α) (n:=len) (p:=λi y=>(∃ cs',w.cells? 0 (a.add (i*Tryz.prog.cellsOf e)) (Tryz.prog.cellsOf e)=some cs'/\D.R w (λ_=>True) y cs')/\m y<=Rows.uptoBulk (Dd i)) (λi hi=>by
   obtain⟨cs',h1,h2⟩:=hel i Om;obtain⟨y,hy,hb⟩:=hd enc w sp n cs' _ h2
   exact⟨y,⟨cs',h1,hy⟩,hb⟩)
  refine⟨(List.range len).map f,⟨some a,cap,by simp,by simpa using hl,(λe=>by cases e),by simp;omega,?_⟩,?_⟩
  ·by_cases h0:len=0
   ·left;subst h0;rfl
   right;obtain⟨b,o,spot⟩:=a;obtain⟨⟨cs0,k1,k2⟩,_⟩:=hf 0 Om;obtain⟨_,k4,k5⟩:=World.cells?_some k1;have hl0:=D.len k2;have hne:0<cs0.length:=Om;have kc:=k5 0 Om;rw[Ge hne]at kc
   have hsp:spot=none:=by
    have:=World.cell?_spot kc;simpa [Addr.add] using this
   subst hsp
   have hbl:b<w.heap.size:=by
    have:=World.block_lt_of_cell? w _ kc;simpa [Addr.add] using this
   refine⟨b,o,rfl,trivial,hbl,λi hi=>?_⟩;have hi':i<len:=(by simpa using hi);obtain⟨⟨cs',h1,h2⟩,_⟩:=hf i hi';obtain⟨_,h4,h5⟩:=World.cells?_some h1;refine⟨cs',by simpa using h2,λj hj=>?_⟩;have:=h5 j Om;rw[Ge hj,hc]at this;rw[<- this];simp only[Go.WideShapes.add_plain]
  ·have:=Zbh Dd (λi=>m (f i)) (List.range len) (λi hi=>(hf i (List.mem_range.1 hi)).2);show (((List.range len).map f).map m).sum<=Rows.uptoBulk (.slice ((List.range len).map Dd) _);rw[List.map_map];show ((List.range len).map λi=>m (f i)).sum<=Rows.uptoBulk (.slice ((List.range len).map Dd) _);simp only[Rows.uptoBulk];omega
theorem Jv{T:TypeId}{fs:Array Field}(ht:Tryz.prog.underlying T=some (.struct fs))(hone:oneCellFields Tryz.prog fs=true)(hct:Tryz.prog.cellsOf T=fs.size){H:Type}(enc:TypeId×Value->H)(w:World)(sp:Nat->Bool)(fuel:Nat)(cs:List Value)(x:DataW H×List MemPlace)(h:DataW.trod enc Tryz.prog w 0 sp true fuel T cs=some x) :
  ∃ xs:List (DataW H×List MemPlace),x.1=.agg (xs.map (·.1))/\xs.length=fs.size/\cs.length=fs.size/\∀ (i:Nat) (f:Field) (v:Value) (y:DataW H×List MemPlace),fs[i]?=some f->cs[i]?=some v->xs[i]?=some y->∃ n,DataW.trod enc Tryz.prog w 0 sp true n f.type [v]=some y:=by
 obtain⟨xs,n,hx1,hx2,hl,hxl,hall⟩:=DataW.trod_struct ht h;subst hx2;refine⟨xs,rfl,hxl,by rw[hl,hct],λi f v y hf hv hy=>?_⟩;obtain⟨o,k⟩:=hone_of hone i f hf;have h1:=hall i f hf;rw[hy,o,k]at h1;exact⟨n,by rw[<- Zl8 i v hv];exact h1⟩
def Ha(u:GRec):Nat:=total u.tokens+total u.yomi
theorem Ag:RdM 34 strs total:=Ga Tryz.underlying34 Kr (by decide) (Zkt Tryz.underlying9)
theorem Zku:RdM 70 tRec Ha:=by
 intro H enc w sp fuel cs x h;obtain⟨xs,hx,hxl,hl,hf⟩:=Jv Tryz.underlying70 Kr Kr enc w sp fuel cs x h;obtain⟨v0,v1,v2,v3,rfl⟩:=Zl6 hl;obtain⟨y0,y1,y2,y3,rfl⟩:=Zl6 hxl;obtain⟨_,h0⟩:=hf 0 _ _ _ rfl rfl rfl;obtain⟨_,h1⟩:=hf 1 _ _ _ rfl rfl rfl;obtain⟨_,h2⟩:=hf 2 _ _ _ rfl rfl rfl;obtain⟨_,h3⟩:=hf 3 _ _ _ rfl rfl rfl;obtain⟨a0,r0⟩:=M4 Tryz.underlying9 enc w sp _ _ _ h0;obtain⟨a1,r1,m1⟩:=Ag enc w sp _ _ _ h1;obtain⟨a2,r2,m2⟩:=Ag enc w sp _ _ _ h2;obtain⟨a3,r3⟩:=M4 Tryz.underlying9 enc w sp _ _ _ h3;refine⟨⟨a0,a1,a2,a3⟩,⟨[v0],_,rfl,r0,[v1],_,rfl,r1,[v2],[v3],rfl,r2,r3⟩,?_⟩;rw[hx];simp only[List.map_cons,List.map_nil,Rows.uptoBulk,Rows.uptoBulkAll,Ha];omega
theorem Zht:RdM 30 tDict (λd=>(d.user.map Ha).sum):=by
 intro H enc w sp fuel cs x h;obtain⟨xs,hx,hxl,hl,hf⟩:=Jv Tryz.underlying30 Kr Kr enc w sp fuel cs x h;obtain⟨v0,v1,v2,v3,v4,v5,v6,v7,v8,v9,v10,rfl⟩:=Zic hl;obtain⟨y0,y1,y2,y3,y4,y5,y6,y7,y8,y9,y10,rfl⟩:=Zic hxl;obtain⟨_,h0⟩:=hf 0 _ _ _ rfl rfl rfl;obtain⟨_,h1⟩:=hf 1 _ _ _ rfl rfl rfl;obtain⟨_,h2⟩:=hf 2 _ _ _ rfl rfl rfl;obtain⟨_,h3⟩:=hf 3 _ _ _ rfl rfl rfl;obtain⟨_,h4⟩:=hf 4 _ _ _ rfl rfl rfl;obtain⟨_,h5⟩:=hf 5 _ _ _ rfl rfl rfl;obtain⟨_,h6⟩:=hf 6 _ _ _ rfl rfl rfl;obtain⟨_,h7⟩:=hf 7 _ _ _ rfl rfl rfl;obtain⟨_,h8⟩:=hf 8 _ _ _ rfl rfl rfl;obtain⟨_,h9⟩:=hf 9 _ _ _ rfl rfl rfl;obtain⟨_,h10⟩:=hf 10 _ _ _ rfl rfl rfl;obtain⟨a0,r0⟩:=Up Tryz.underlying22 Kr (by decide) Zkv enc w sp _ _ _ h0;obtain⟨a1,r1⟩:=Vy Tryz.underlying3 enc w sp _ _ _ h1;obtain⟨a2,r2⟩:=Vy Tryz.underlying3 enc w sp _ _ _ h2;obtain⟨a3,r3⟩:=Up Tryz.underlying23 Kr (by decide) (Vy Tryz.underlying3) enc w sp _ _ _ h3;obtain⟨a4,r4⟩:=Up Tryz.underlying24 Kr (by decide) Zhu enc w sp _ _ _ h4;obtain⟨a5,r5⟩:=Up Tryz.underlying25 Kr (by decide) Zhv enc w sp _ _ _ h5;obtain⟨a6,r6⟩:=Up Tryz.underlying26 Kr (by decide) Zmi enc w sp _ _ _ h6;obtain⟨a7,r7⟩:=Up Tryz.underlying27 Kr (by decide) Zdr enc w sp _ _ _ h7;obtain⟨a8,r8⟩:=Up Tryz.underlying27 Kr (by decide) Zdr enc w sp _ _ _ h8;obtain⟨a9,r9⟩:=Ey Tryz.underlying4 enc w sp _ _ _ h9;obtain⟨a10,r10,m10⟩:=Ga Tryz.underlying28 Kr (by decide) Zku enc w sp _ _ _ h10;refine⟨⟨a0,a1,a2,a3,a4,a5,a6,a7,a8,a9,a10⟩,⟨[v0],_,rfl,r0,[v1],_,rfl,r1,[v2],_,rfl,r2,[v3],_,rfl,r3,[v4],_,rfl,r4,[v5],_,rfl,r5,[v6],_,rfl,r6,[v7],_,rfl,r7,[v8],_,rfl,r8,[v9],[v10],rfl,r9,r10⟩,?_⟩;have m10:(a10.map Ha).sum<=_:=m10;rw[hx];show (a10.map Ha).sum<=_;simp only[List.map_cons,List.map_nil,Rows.uptoBulk,Rows.uptoBulkAll];omega
end
section
open Go.RowKit
theorem Ki{P:Program}{w:World}{ops:Array Oper}{rest:List Oper}{o:Oper}{a:Act}{Q:Exit->Act->World->Prop}(hg:o.guard=none)(s x:Operand)(t:TypeId)(hop:o.op=Op.call { callee:=Callee.builtin Builtin.append,args:=#[s,x],argTypes:=#[t,t] })
  (base:Nat) (e:TypeId) (i:TypeInfo) (size:Nat) (h1:P.underlying t=some (.slice e)) (h2:P.info? e=some i) (v:Value) (n:Nat) (xs:List Value) (hs:a.eval s=v) (hown:w.ownsRow base e size v n xs) (hx:a.eval x=.slice none 0 0)
  (hK:wpList P ops Q rest (a.put o.dst v) w):wpList P ops Q (o::rest) a w:=by
 have hr:=run_append_owned_none (P:=P) (w:=w) base t o.type e i size h1 h2 v n xs hown;refine wpList_plain hg λK hK'=>?_
 unfold Oper.wp execOp;simp only[hop,resolve,invoke,builtin,Sem.run_bind,Sem.run_pure,Result.andThen_ok,List.map_toArray,List.map_cons,List.map_nil,hs,hx,hr];exact hK' _ _ hK
theorem Vb{w:World}{B:Nat}{T:TypeId}{k n:Nat}{v:Value}{xs:List Value}(h:w.ownsRow B T k v n xs)(j:Nat)(hj:j<n*k):∃ g c,v=.slice (some ⟨g,0,none⟩) n c/\w.cell? ⟨g,j,none⟩=xs[j]? /\ v.ownBlock=some g:=by
 rcases id h.2 with ⟨_,e⟩|⟨g,cap,cur,rfl,_⟩
 ·subst e;simp at hj
 ·exact⟨g,cap,rfl,h.cellAt j hj,rfl⟩
theorem Zs{S:Nat->Prop}{w w':World}{base sz n:Nat}{e:TypeId}{v:Value}{xs:List Value}(h:w.ownsRow base e sz v n xs)(f:Fr S w w')(hs:∀ g,v.ownBlock=some g->¬ S g):w'.ownsRow base e sz v n xs:=by
 obtain⟨hl,h|⟨g,cap,cur,rfl,hb,hc,h2⟩⟩:=h
 ·exact⟨hl,.inl h⟩
 ·exact⟨hl,.inr ⟨g,cap,cur,rfl,hb,f.heap hc (hs g rfl),h2⟩⟩
theorem Zl{w:World}{base sz n:Nat}{e:TypeId}{v:Value}{xs:List Value}(h:w.ownsRow base e sz v n xs):∃ A c,v=.slice A n c:=by
 obtain⟨_,⟨rfl,rfl⟩|⟨g,cap,cur,rfl,_⟩⟩:=h
 ·exact⟨_,_,rfl⟩
 ·exact⟨_,_,rfl⟩
theorem Z0(w:World)(u0:Value){T:TypeId}:∀ j u,[u0][j]?=some u->(w.alloc (.cells #[u0] T)).cell? ((⟨w.heap.size,0,none⟩:Addr).add j)=some u:=by
 intro j u hj
 cases j with
 | zero =>
  have:u0=u:=by simpa using hj
  subst this;rw[Addr.add_lit];simp only[World.cell?,alloc_at];rfl
 | succ j=>simp at hj
theorem cell_of{w:World}{b:Nat}{cs:Array Value}{T:TypeId}(h:w.heap[b]?=some (.cells cs T (0,0)))(j:Nat)(u:Value)(hj:cs[j]?=some u):w.cell? ⟨b,j,none⟩=some u:=by
 simp only[World.cell?,h];exact hj
theorem Zi{w:World}{b:Nat}{cs:Array Value}{T:TypeId}(h:w.heap[b]?=some (.cells cs T (0,0)))(j:Nat):w.frozen? ⟨b,j,none⟩=false:=by
 simp[World.frozen?,h]
end
end Go.Proofs.YtlfoalomaofejaaGreatDoor
