/- What a dictionary that reads as data holds, with how much of the data is its user's: for the second  -/
import Derived.Test.YtoliamijgmifkaaGreatDoorF6
import Derived.Test.YtoliamijgmifkaaGreatDoorCards
set_option linter.all false
namespace Go.Proofs.YtoliamijgmifkaaGreatDoor
open Go.RowKit DT Go.Deep Go.Lib
def RdM{α:Type}(T:TypeId)(D:Ty α)(m:α->Nat):Prop:=∀ {H:Type} (enc:TypeId × Value->H) (w:World) (sp:Nat->Bool) (fuel:Nat) (cs:List Value) (x:DataW H × List MemPlace),DataW.trod enc Tryz.prog w 0 sp true fuel T cs=some x->∃ a,D.R w (fun _=>True) a cs/\m a<=Rows.uptoBulk x.1
theorem Zg3{H:Type}{d:DataW H}{l:List (DataW H)}(h:d∈l):Rows.uptoBulk d<=Rows.uptoBulkAll l:=by
 induction l with
 | nil=>cases h
 | cons x r ih =>
  simp only[Rows.uptoBulkAll];rcases List.mem_cons.1 h with e|e
  ·subst e;omega
  ·have:=ih e;omega
theorem Ba{H:Type}(f:Nat->DataW H)(g:Nat->Nat):∀ l:List Nat,(∀ i∈l,g i<=Rows.uptoBulk (f i))->(l.map g).sum<=Rows.uptoBulkAll (l.map f)
 | [],_=>Nat.le_refl 0
 | i::l,h=>by
  have h1:=h i (by simp);have h2:=Ba f g l (fun j hj=>h j (by simp[hj]));simp only[List.map_cons,List.sum_cons,Rows.uptoBulkAll];omega
theorem Zbg{α:Type}(m:α->Nat){x:α}:∀ {l:List α},x∈l->m x<=(l.map m).sum
 | y::l,h=>by
  rw[List.map_cons,List.sum_cons];rcases List.mem_cons.1 h with rfl|h
  ·omega
  ·have:=Zbg m h;omega
theorem Zh6{T:TypeId}(ht:Tryz.prog.underlying T=some .string):RdM T Ty.str (fun s=>s.size+1):=by
 intro H enc w sp fuel cs x h;obtain⟨s,rfl,hx,hs⟩:=DataW.trod_string ht h;unfold maxLen at hs;refine⟨s,⟨rfl,by omega⟩,?_⟩;subst hx;simp only[Rows.uptoBulk,Array.length_toList];exact Nat.le_refl _
theorem Ie{α:Type}[Inhabited α]{T e:TypeId}{D:Ty α}{m:α->Nat}(ht:Tryz.prog.underlying T=some (.slice e))(hc:Tryz.prog.cellsOf e=D.sz)(hz:0<D.sz)(hd:RdM e D m):RdM T (Ty.slice D) (fun xs=>(xs.map m).sum):=by
 intro H enc w sp fuel cs x h;rcases open_slice ht h with ⟨rfl,rfl⟩|⟨a,len,cap,mm,n,Dd,Pl,rfl,_,hl,hm,hmm,rfl,hel⟩
 ·exact⟨[],⟨none,0,rfl,Nat.le_refl _,fun _=>rfl,by simp,.inl rfl⟩,Nat.zero_le _⟩
 ·have hlm:len<=mm:=by rw[hmm];split <;> omega
  unfold maxLen at hm
  obtain⟨f,hf⟩:=choose_lt (α:=α) (n:=len) (p:=fun i y=>(∃ cs',w.cells? 0 (a.add (i*Tryz.prog.cellsOf e)) (Tryz.prog.cellsOf e)=some cs'/\D.R w (fun _=>True) y cs')/\m y<=Rows.uptoBulk (Dd i)) (fun i hi=>by
   obtain⟨cs',h1,h2⟩:=hel i (by omega);obtain⟨y,hy,hb⟩:=hd enc w sp n cs' _ h2
   exact⟨y,⟨cs',h1,hy⟩,hb⟩)
  refine⟨(List.range len).map f,⟨some a,cap,by simp,by simpa using hl,(fun e=>by cases e),by simp;omega,?_⟩,?_⟩
  ·by_cases h0:len=0
   ·left;subst h0;rfl
   right;obtain⟨b,o,spot⟩:=a;obtain⟨⟨cs0,k1,k2⟩,_⟩:=hf 0 (by omega);obtain⟨_,k4,k5⟩:=World.cells?_some k1;have hl0:=D.len k2;have hne:0<cs0.length:=by omega
   have kc:=k5 0 (by omega);rw[List.getElem?_eq_getElem hne]at kc
   have hsp:spot=none:=by
    have:=World.cell?_spot kc;simpa [Addr.add] using this
   subst hsp
   have hbl:b<w.heap.size:=by
    have:=World.block_lt_of_cell? w _ kc;simpa [Addr.add] using this
   refine⟨b,o,rfl,trivial,hbl,fun i hi=>?_⟩;have hi':i<len:=by simpa using hi
   obtain⟨⟨cs',h1,h2⟩,_⟩:=hf i hi';obtain⟨_,h4,h5⟩:=World.cells?_some h1;refine⟨cs',by simpa using h2,fun j hj=>?_⟩;have:=h5 j (by omega);rw[List.getElem?_eq_getElem hj,hc]at this;rw[<- this];simp only[Go.WideShapes.add_plain]
  ·have:=Ba Dd (fun i=>m (f i)) (List.range len) (fun i hi=>(hf i (List.mem_range.1 hi)).2);show (((List.range len).map f).map m).sum<=Rows.uptoBulk (.slice ((List.range len).map Dd) _);rw[List.map_map];show ((List.range len).map fun i=>m (f i)).sum<=Rows.uptoBulk (.slice ((List.range len).map Dd) _);simp only[Rows.uptoBulk];omega
theorem Ki{T:TypeId}{fs:Array Field}(ht:Tryz.prog.underlying T=some (.struct fs))(hone:oneCellFields Tryz.prog fs=true)(hct:Tryz.prog.cellsOf T=fs.size){H:Type}(enc:TypeId × Value->H)(w:World)(sp:Nat->Bool)(fuel:Nat)(cs:List Value)(x:DataW H × List MemPlace)(h:DataW.trod enc Tryz.prog w 0 sp true fuel T cs=some x) :
  ∃ xs:List (DataW H × List MemPlace),x.1 = .agg (xs.map (·.1))/\xs.length=fs.size/\cs.length=fs.size/\∀ (i:Nat) (f:Field) (v:Value) (y:DataW H × List MemPlace),fs[i]? = some f->cs[i]? = some v->xs[i]? = some y->∃ n,DataW.trod enc Tryz.prog w 0 sp true n f.type [v]=some y:=by
 obtain⟨xs,n,hx1,hx2,hl,hxl,hall⟩:=DataW.trod_struct ht h;subst hx2;refine⟨xs,rfl,hxl,by rw[hl,hct],fun i f v y hf hv hy=>?_⟩;obtain⟨o,k⟩:=hone_of hone i f hf;have h1:=hall i f hf;rw[hy,o,k]at h1;exact⟨n,by rw[<- Zje i v hv];exact h1⟩
def Jq(u:GRec):Nat:=total u.tokens+total u.yomi
theorem E4:RdM 43 strs total:=Ie Tryz.underlying43 (by kernel_rfl) (by decide) (Zh6 Tryz.underlying9)
theorem Zh7:RdM 53 tRec Jq:=by
 intro H enc w sp fuel cs x h;obtain⟨xs,hx,hxl,hl,hf⟩:=Ki Tryz.underlying53 (by kernel_rfl) (by kernel_rfl) enc w sp fuel cs x h;obtain⟨v0,v1,v2,v3,rfl⟩:=Zjc hl;obtain⟨y0,y1,y2,y3,rfl⟩:=Zjc hxl;obtain⟨_,h0⟩:=hf 0 _ _ _ rfl rfl rfl;obtain⟨_,h1⟩:=hf 1 _ _ _ rfl rfl rfl;obtain⟨_,h2⟩:=hf 2 _ _ _ rfl rfl rfl;obtain⟨_,h3⟩:=hf 3 _ _ _ rfl rfl rfl;obtain⟨a0,r0⟩:=N7 Tryz.underlying9 enc w sp _ _ _ h0;obtain⟨a1,r1,m1⟩:=E4 enc w sp _ _ _ h1;obtain⟨a2,r2,m2⟩:=E4 enc w sp _ _ _ h2;obtain⟨a3,r3⟩:=N7 Tryz.underlying9 enc w sp _ _ _ h3;refine⟨⟨a0,a1,a2,a3⟩,⟨[v0],_,rfl,r0,[v1],_,rfl,r1,[v2],[v3],rfl,r2,r3⟩,?_⟩;rw[hx];simp only[List.map_cons,List.map_nil,Rows.uptoBulk,Rows.uptoBulkAll,Jq];omega
theorem Zfi:RdM 30 tDict (fun d=>(d.user.map Jq).sum):=by
 intro H enc w sp fuel cs x h;obtain⟨xs,hx,hxl,hl,hf⟩:=Ki Tryz.underlying30 (by kernel_rfl) (by kernel_rfl) enc w sp fuel cs x h;obtain⟨v0,v1,v2,v3,v4,v5,v6,v7,v8,v9,v10,rfl⟩:=Zfz hl;obtain⟨y0,y1,y2,y3,y4,y5,y6,y7,y8,y9,y10,rfl⟩:=Zfz hxl;obtain⟨_,h0⟩:=hf 0 _ _ _ rfl rfl rfl;obtain⟨_,h1⟩:=hf 1 _ _ _ rfl rfl rfl;obtain⟨_,h2⟩:=hf 2 _ _ _ rfl rfl rfl;obtain⟨_,h3⟩:=hf 3 _ _ _ rfl rfl rfl;obtain⟨_,h4⟩:=hf 4 _ _ _ rfl rfl rfl;obtain⟨_,h5⟩:=hf 5 _ _ _ rfl rfl rfl;obtain⟨_,h6⟩:=hf 6 _ _ _ rfl rfl rfl;obtain⟨_,h7⟩:=hf 7 _ _ _ rfl rfl rfl;obtain⟨_,h8⟩:=hf 8 _ _ _ rfl rfl rfl;obtain⟨_,h9⟩:=hf 9 _ _ _ rfl rfl rfl;obtain⟨_,h10⟩:=hf 10 _ _ _ rfl rfl rfl;obtain⟨a0,r0⟩:=Ub Tryz.underlying22 (by kernel_rfl) (by decide) Zh8 enc w sp _ _ _ h0;obtain⟨a1,r1⟩:=Vp Tryz.underlying3 enc w sp _ _ _ h1;obtain⟨a2,r2⟩:=Vp Tryz.underlying3 enc w sp _ _ _ h2;obtain⟨a3,r3⟩:=Ub Tryz.underlying23 (by kernel_rfl) (by decide) (Vp Tryz.underlying3) enc w sp _ _ _ h3;obtain⟨a4,r4⟩:=Ub Tryz.underlying24 (by kernel_rfl) (by decide) Zfj enc w sp _ _ _ h4;obtain⟨a5,r5⟩:=Ub Tryz.underlying25 (by kernel_rfl) (by decide) Zfk enc w sp _ _ _ h5;obtain⟨a6,r6⟩:=Ub Tryz.underlying26 (by kernel_rfl) (by decide) Zjn enc w sp _ _ _ h6;obtain⟨a7,r7⟩:=Ub Tryz.underlying27 (by kernel_rfl) (by decide) Zbi enc w sp _ _ _ h7;obtain⟨a8,r8⟩:=Ub Tryz.underlying27 (by kernel_rfl) (by decide) Zbi enc w sp _ _ _ h8;obtain⟨a9,r9⟩:=Gl Tryz.underlying4 enc w sp _ _ _ h9;obtain⟨a10,r10,m10⟩:=Ie Tryz.underlying28 (by kernel_rfl) (by decide) Zh7 enc w sp _ _ _ h10;refine⟨⟨a0,a1,a2,a3,a4,a5,a6,a7,a8,a9,a10⟩,⟨[v0],_,rfl,r0,[v1],_,rfl,r1,[v2],_,rfl,r2,[v3],_,rfl,r3,[v4],_,rfl,r4,[v5],_,rfl,r5,[v6],_,rfl,r6,[v7],_,rfl,r7,[v8],_,rfl,r8,[v9],[v10],rfl,r9,r10⟩,?_⟩;have m10:(a10.map Jq).sum<=_:=m10;rw[hx];show (a10.map Jq).sum<=_;simp only[List.map_cons,List.map_nil,Rows.uptoBulk,Rows.uptoBulkAll];omega
end Go.Proofs.YtoliamijgmifkaaGreatDoor
