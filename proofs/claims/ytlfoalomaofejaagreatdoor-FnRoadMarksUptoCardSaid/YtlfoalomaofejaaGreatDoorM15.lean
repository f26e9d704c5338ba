/- BuildIndexTable. -/
import Derived.Test.YtlfoalomaofejaaGreatDoorM14
import Derived.Handy
set_option linter.all false
set_option maxRecDepth 100000
set_option maxHeartbeats 2000000
namespace Go.Proofs.YtlfoalomaofejaaGreatDoor
open Go.RowKit TR
theorem Dl{w:World}{g:Nat}{e:TypeId}{cap n:Nat}{f:Nat->Value}{x:Value}{h:Array Value}(A:w.heap[g]?=some (.cells h e (0,0)))(J:h.size=cap)(G:∀ i,i<cap->h[i]?=some (f i))(K:n<cap) :
  (w.setRow g (h.toList.take n++[x]++h.toList.drop (n+1)).toArray).rowIs g e cap (λj=>if j=n then x else f j):=by
 refine⟨_,setRow_heap w g h _ e _ A,?_,λi hi=>?_⟩
 ·simp;omega
 ·rw[List.getElem?_toArray];show _=some (if i=n then x else f i);have q:=G i hi;by_cases I:i<n
  ·rw[List.append_assoc,List.getElem?_append_left (by simp;omega),List.getElem?_take,if_pos I,if_neg Om,Array.getElem?_toList];exact q
  ·by_cases z:i=n
   ·subst z;rw[if_pos rfl,List.append_assoc,List.getElem?_append_right (by rw[List.length_take,Array.length_toList];omega),List.length_take,Array.length_toList,(Om:i-min i h.size=0)];rfl
   ·rw[if_neg z,List.getElem?_append_right (by simp;omega),List.getElem?_drop];simp only[List.length_append,List.length_take,Array.length_toList,List.length_singleton];rw[(Om:n+1+(i-(min n h.size+1))=i),Array.getElem?_toList];exact q
theorem Ui{P:Program}{w:World}{ops:Array Oper}{rest:List Oper}{o:Oper}{a:Act}{Q:Exit->Act->World->Prop}(G:o.guard=none)(s x:Operand)(t:TypeId)
  (ho:o.op=.call { callee:=.builtin .append,args:=#[s,x],argTypes:=#[t,t] }) {e:TypeId} {i:TypeInfo} (Y:P.underlying t=some (.slice e)) (hi:P.info? e=some i) (q:i.size=1)
  {g n cap:Nat} {f:Nat->Value} (Z:a.eval s=.slice (some ⟨g,0,none⟩) n cap) (z:w.rowIs g e cap f) (hn:n<cap)
  (J:Addr) (c:Nat) (u:Value) (V:a.eval x=.slice (some J) 1 c) (X:∀ j L,[u][j]?=some L->w.cell? (J.add j)=some L) (h1:u.oneCell'=true)
  (h:∀ w',w'.rowIs g e cap (λj=>if j=n then u else f j)->Fr (λk=>k=g) w w'->w'.heap.size=w.heap.size->wpList P ops Q rest (a.put o.dst (.slice (some ⟨g,0,none⟩) (n+1) cap)) w') :
  wpList P ops Q (o::rest) a w:=by
 refine wpList_plain G λK hK=>?_
 obtain⟨I,U,A,hc⟩:=z;have M:=run_append_room (P:=P) w t o.type e i Y hi g n cap I U J 1 c [u] (by rw[q];rfl) X (λv W=>by rw[List.mem_singleton.1 W];exact h1) Om (by rw[q];simp;omega);rw[q,Nat.mul_one]at M;unfold Oper.wp execOp;simp only[ho,resolve,invoke,builtin,Sem.run_bind,Sem.run_pure,Result.andThen_ok,List.map_toArray,List.map_cons,List.map_nil,Z,V,M];exact hK _ _ (h _ (Dl U A hc hn) ((Fl _).setRow _ _ (λ_=>rfl)) (by simp[World.setRow]))
theorem T9:Ja (κ:=Int) (.int .i32) (Value.int .i32):=⟨λ_=>rfl,λa b h=>by cases h;rfl⟩
abbrev Tm:Int->Value:=Value.int .i32
def Zfp(l:List (Int×Value))(R:List Ba):Prop :=
 (∀ r∈R,look l (r.2.1:Int)=if r.2.2=0 then none else some (.int .i32 (r.2.2:Int)))/\∀ i:Int,(∀ r∈R,(r.2.1:Int)≠i)->look l i=none
theorem V5:(Tryz.prog.info? 9).map (λi=>(i.zero,i.size,i.bytes))=some (some (.string ⟨#[]⟩),1,16):=Kr
theorem Rb(w:World):(zeroValue 21).run Tryz.prog w=.ok (.int .i32 0) w:=Kr
structure Zd7(wm:World)(kb0 ib0 mb pv N:Nat)(ws:List ByteArray)(k:Nat)(wr:World):Prop where
 kr:wr.rowIs kb0 9 N (λj=>match (runs (ws.take k))[j]? with|some r=>.string r.1|none=>.string ⟨#[]⟩)
 ir:wr.rowIs ib0 3 N (λj=>match (runs (ws.take k))[j]? with|some r=>.int .i64 (r.2.1:Int)|none=>.int .i64 0)
 prev:∃ pf pk,wr.heap[pv]?=some (.cells #[.int .i64 ((pf:Nat):Int),.string pk] 365 (0,0))/\pf<10000/\(match (runs (ws.take k)).getLast? with|some r=>pk=r.1/\pf=r.2.1|none=>pk=ByteArray.empty/\pf=0)
 dup:∃ l,Zq Tm mb l wr/\Zfp l (runs (ws.take k))
 fr:Fr (λj=>j=kb0\/j=ib0\/j=mb\/j=pv) wm wr
theorem Gy{ws:List ByteArray}{k:Nat}(h:k<ws.length):runs (ws.take (k+1))=Tw (runs (ws.take k)) k ws[k]:=by
 rw[List.take_succ_eq_append_getElem h,P7,List.length_take,Nat.min_eq_left Om]
theorem J9(ws:List ByteArray):(runs ws).length<=ws.length:=by
 induction h:ws.length generalizing ws with
 | zero=>rw[List.eq_nil_of_length_eq_zero h];simp[runs]
 | succ n ih =>
  obtain⟨m,c,rfl⟩:∃ m c,ws=m++[c]:=⟨ws.dropLast,ws.getLast (by intro e;simp[e]at h),(List.dropLast_concat_getLast _).symm⟩;have:=ih m (by simpa using h);rw[P7];unfold Tw
  split
  ·rename_i a f e hl
   split
   ·rw[List.length_append,List.length_dropLast];simp;omega
   ·simp;omega
  ·simp
theorem toList_inj{a b:ByteArray}(h:a.toList=b.toList):a=b:=L3 (by rw[ByteArray.toList_eq,ByteArray.toList_eq]at h;exact h)
theorem Se.at{ws:List ByteArray}{R:List Ba}(h:Se ws R){r:Ba}(q:r∈R):ws[r.2.1]?=some r.1:=by
 have h1:=h.idx r q;have h2:r.2.1∈Iz ws r.1:=by rw[h1,List.mem_range'_1];omega
 obtain⟨h3,h4⟩:=List.mem_filter.1 h2;have z:r.2.1<ws.length:=by simpa using h3
 rw[Ge z]at h4⊢;simpa using h4
theorem Wa{S:Nat->Prop}{w w':World}{g n:Nat}{e:TypeId}{f:Nat->Value}(h:w.rowIs g e n f)(z:Fr S w w')(q:¬ S g):w'.rowIs g e n f:=h.of_block (z.block g h.lt q)
theorem Zl9{wm wr X:World}{M ib0 L Y N k G e:Nat}{ws:List ByteArray}{K:ByteArray}{l:List (Int×Value)}(h:Zd7 wm M ib0 L Y N ws k wr)(hl:(runs (ws.take k)).getLast? = some (K,G,e))(ab:k<ws.length)(hx:ws[k]=K)
  (V:Se (ws.take k) (runs (ws.take k))) (hd:Zfp l (runs (ws.take k))) (hm:Zq Tm L (put l (G:Int) (.int .i32 ((e:Int)+1))) X) (W:Fr (λj=>j=L) wr X) (A:L≠M/\L≠ib0/\L≠Y) :
  Zd7 wm M ib0 L Y N ws (k+1) X/\(runs (ws.take (k+1))).length=(runs (ws.take k)).length:=by
 have hr:=Gy ab
 obtain⟨R',J⟩:∃ R',runs (ws.take k)=R'++[(K,G,e)]:=by
  have A:runs (ws.take k)≠[]:=by intro q;rw[q]at hl;cases hl
  refine⟨(runs (ws.take k)).dropLast,?_⟩;rw[List.getLast?_eq_some_getLast A]at hl;injection hl with hl
  rw[<- hl];exact (List.dropLast_concat_getLast A).symm
 have I:runs (ws.take (k+1))=R'++[(K,G,e+1)]:=by
  rw[hr,hx,J];simp[Tw]
 obtain⟨a1,a2,⟨aa,Z,a3,a4,a5⟩,_,a7⟩:=h
 have U:(runs (ws.take (k+1))).map (λr:Ba=>(r.1,r.2.1))=(runs (ws.take k)).map (λr:Ba=>(r.1,r.2.1)):=by
  rw[I,J];simp
 have hg:∀ j:Nat,((runs (ws.take (k+1)))[j]?).map (λr:Ba=>(r.1,r.2.1))=((runs (ws.take k))[j]?).map (λr:Ba=>(r.1,r.2.1)):=λj=>by
  rw[<- List.getElem?_map,<- List.getElem?_map,U]
 refine⟨⟨(Wa a1 W (Ne.symm A.1)).congr (λj _=>?_),(Wa a2 W (Ne.symm A.2.1)).congr (λj _=>?_),⟨aa,Z,W.heap a3 (Ne.symm A.2.2),a4,?_⟩,⟨_,hm,?_⟩,a7.trans W (λj _ e=>.inr (.inr (.inl e)))⟩,by rw[I,J];simp⟩
 ·have:=hg j;cases h1:(runs (ws.take (k+1)))[j]?<;>cases h2:(runs (ws.take k))[j]?<;>rw[h1,h2]at this<;>simp at this⊢;exact this.1.symm
 ·have:=hg j;cases h1:(runs (ws.take (k+1)))[j]?<;>cases h2:(runs (ws.take k))[j]?<;>rw[h1,h2]at this<;>simp at this⊢;exact this.2.symm▸rfl
 ·rw[hl]at a5;rw[I];simpa using a5
 ·rw[J]at hd V;rw[I];refine⟨λr z=>?_,λy hy=>?_⟩
  ·rw[Wn];rcases List.mem_append.1 z with z|z
   ·have h1:=V.at (List.mem_append_left _ z);have h2:=V.at (r:=(K,G,e)) (by simp);have A:=((List.pairwise_append.1 V.asc).2.2 r z (K,G,e) (by simp)).2;rw[if_neg (λq=>?_)]
    ·exact hd.1 r (List.mem_append_left _ z)
    ·have:G=r.2.1:=Om;rw[<- this]at h1;rw[h2]at h1;injection h1 with h1
     exact A h1.symm
   ·rw[List.mem_singleton.1 z];simp
  ·rw[Wn,if_neg (hy (K,G,e+1) (by simp))];refine hd.2 y (λr z=>?_);rcases List.mem_append.1 z with z|z
   ·exact hy r (List.mem_append_left _ z)
   ·rw[List.mem_singleton.1 z];exact hy (K,G,e+1) (by simp)
theorem Znl{wm wr J:World}{z ib0 L K N k pf:Nat}{ws:List ByteArray}{U x:ByteArray}(h:Zd7 wm z ib0 L K N ws k wr)(hl:match (runs (ws.take k)).getLast? with|some r=>U=r.1/\pf=r.2.1|none=>U=ByteArray.empty/\pf=0)(V:k<ws.length)(hk:k<10000)(hx:x=ws[k])(hn:¬ x=U)
  (ho:Se (ws.take k) (runs (ws.take k)))
  (W:J.rowIs z 9 N (λj=>if j=(runs (ws.take k)).length then .string x else match (runs (ws.take k))[j]? with|some r=>.string r.1|none=>.string ⟨#[]⟩))
  (X:J.rowIs ib0 3 N (λj=>if j=(runs (ws.take k)).length then .int .i64 (k:Int) else match (runs (ws.take k))[j]? with|some r=>.int .i64 (r.2.1:Int)|none=>.int .i64 0))
  (hp:J.heap[K]?=some (.cells #[.int .i64 (k:Int),.string x] 365 (0,0))) (hf:Fr (λj=>j=z\/j=ib0\/j=K) wr J) (I:L≠z/\L≠ib0/\L≠K) :
  Zd7 wm z ib0 L K N ws (k+1) J/\(runs (ws.take (k+1))).length=(runs (ws.take k)).length+1:=by
 have A:runs (ws.take (k+1))=runs (ws.take k)++[(x,k,0)]:=by
  rw[Gy V,<- hx];unfold Tw
  cases hg:(runs (ws.take k)).getLast? with
  | none=>rw[List.getLast?_eq_none_iff.1 hg];rfl
  | some r =>
   rw[hg]at hl;simp only;rw[if_neg (λq=>hn (q.trans hl.1.symm))]
 obtain⟨a1,a2,_,⟨l,a5,Z⟩,a7⟩:=h;refine⟨⟨W.congr (λj _=>?_),X.congr (λj _=>?_),⟨k,x,hp,hk,?_⟩,⟨l,a5.keep hf (λe=>?_),?_⟩,a7.trans hf (λj _ e=>?_)⟩,by rw[A];simp⟩
 ·rw[A];by_cases e:j=(runs (ws.take k)).length
  ·subst e;simp
  ·rw[if_neg e];by_cases Y:j<(runs (ws.take k)).length
   ·rw[List.getElem?_append_left Y]
   ·rw[List.getElem?_eq_none Om,List.getElem?_eq_none (by simp;omega)]
 ·rw[A];by_cases e:j=(runs (ws.take k)).length
  ·subst e;simp
  ·rw[if_neg e];by_cases Y:j<(runs (ws.take k)).length
   ·rw[List.getElem?_append_left Y]
   ·rw[List.getElem?_eq_none Om,List.getElem?_eq_none (by simp;omega)]
 ·rw[A];simp
 ·rcases e with e|e|e
  ·exact I.1 e
  ·exact I.2.1 e
  ·exact I.2.2 e
 ·rw[A];have M:∀ r∈runs (ws.take k),r.2.1<k:=λr G=>by have:=ho.lt r G;rw[List.length_take]at this;omega
  refine⟨λr G=>?_,λy hy=>Z.2 y (λr G=>hy r (List.mem_append_left _ G))⟩;rcases List.mem_append.1 G with G|G
  ·exact Z.1 r G
  ·rw[List.mem_singleton.1 G];simp only[if_true];exact Z.2 _ (λr G=>by have:=M r G;omega)
 ·rcases e with e|e|e
  ·exact .inl e
  ·exact .inr (.inl e)
  ·exact .inr (.inr (.inr e))
theorem Ex{w:World}{b:Nat}{t:TypeId}{x y x' y':Value}(h:w.heap[b]?=some (.cells #[x,y] t (0,0))):((w.setCell ⟨b,0,none⟩ x').setCell ⟨b,1,none⟩ y').heap[b]?=some (.cells #[x',y'] t (0,0)):=by
 simp[World.setCell,Array.getElem?_modify,h]
theorem Zma{ws:List ByteArray}{k q:Nat}{h x:ByteArray}{K:k<ws.length}{l:List (Int×Value)}{p:Prop}
  (L:Hid (x=ws[k]/\(match (runs (ws.take k)).getLast? with|some r=>h=r.1/\q=r.2.1|none=>h=ByteArray.empty/\q=0)/\p/\x≠ByteArray.empty)) (I:x=h) (hd:Zfp l (runs (ws.take k))) (J:Se (ws.take k) (runs (ws.take k))) :
  ∃ e,((runs (ws.take k)).getLast? = some (h,q,e)/\e<ws.length)/\(look l ((q:Nat):Int)).getD (.int .i32 0)=.int .i32 (e:Int):=by
 obtain⟨_,hl,_,A⟩:=L.out
 cases z:(runs (ws.take k)).getLast? with
 | none =>
  rw[z]at hl;exact absurd (I.trans hl.1) A
 | some r =>
  obtain⟨a,f,e⟩:=r;rw[z]at hl;obtain⟨rfl,rfl⟩:=hl;refine⟨e,⟨rfl,?_⟩,?_⟩
  ·have:=J.lt _ (List.mem_of_getLast? z);rw[List.length_take]at this;simp only at this;omega
  ·rw[hd.1 (h,q,e) (List.mem_of_getLast? z)];by_cases G:e=0
   ·subst G;rfl
   ·simp[G]
theorem Of{w:World}{b:Nat}{t:TypeId}{x y:Value}(h:w.heap[b]?=some (.cells #[x,y] t (0,0))):w.cell? ⟨b,0,none⟩=some x:=by simp[World.cell?,h]
theorem Qr{w:World}{b:Nat}{t:TypeId}{x y:Value}(h:w.heap[b]?=some (.cells #[x,y] t (0,0))):w.cell? ⟨b,1,none⟩=some y:=by simp[World.cell?,h]
theorem Jn{w:World}{b:Nat}{t:TypeId}{cs:Array Value}(h:w.heap[b]?=some (.cells cs t (0,0)))(o:Nat):w.frozen? ⟨b,o,none⟩=false:=by simp[World.frozen?,h]
def Uq(ws:List ByteArray):List Key:=(runs ws).map λr=>(r.1.data.toList,r.2.1)
theorem Pq(ws:List ByteArray):Zx ((runs ws).map (·.1)) ((runs ws).map (·.2.1)) 0 (List.range ((runs ws).map (·.1)).length)=Uq ws:=by
 apply List.ext_getElem
 ·simp[Zx,Uq]
 ·intro i h1 h2;have h3:i<(runs ws).length:=by simpa [Uq] using h2
  simp[Zx,Sq,V3,Uq,h3]
def Rc(ws:List ByteArray):Nat:=(ws.map λx=>x.size+1).sum
theorem Jw(a b:List Key):Sg (a++b)=Sg a+Sg b:=by simp[Sg]
theorem Zhx(ws:List ByteArray):Sg (Uq ws)<=Rc ws:=by
 induction h:ws.length generalizing ws with
 | zero=>rw[List.eq_nil_of_length_eq_zero h];simp[Uq,runs,Sg]
 | succ n ih =>
  obtain⟨m,c,rfl⟩:∃ m c,ws=m++[c]:=⟨ws.dropLast,ws.getLast (by intro e;simp[e]at h),(List.dropLast_concat_getLast _).symm⟩;have:=ih m (by simpa using h);have q:Rc (m++[c])=Rc m+(c.size+1):=by simp[Rc]
  unfold Uq at this⊢;rw[q,P7];unfold Tw;rcases List.eq_nil_or_concat (runs m) with e|⟨z,r,e⟩
  ·rw[e];simp[Sg]
  ·obtain⟨a,f,x⟩:=r;rw[List.concat_eq_append]at e;rw[e]at this⊢;simp only[List.getLast?_append,List.getLast?_singleton,Option.some_or,List.dropLast_concat]
   split
   ·rw[List.map_append,Jw]at this⊢;simp[Sg]at this⊢;omega
   ·rw[List.map_append,Jw];have:Sg (List.map (λr:Ba=>(r.1.data.toList,r.2.1)) [(c,m.length,0)])=c.size+1:=(by simp[Sg]);omega
theorem Zg1{ws:List ByteArray}(z:Se ws (runs ws))(A:ws.length<=10000)(G:∀ x∈ws,(0:UInt8) ∉ x.data.toList):M8 ((runs ws).map (·.1)) ((runs ws).map (·.2.1)):=by
 have J:=J9 ws;refine⟨by simp,by simp;omega,λx I=>?_,λi j h=>?_⟩
 ·obtain⟨r,K,rfl⟩:=List.mem_map.1 I;have:=z.lt r K;omega
 ·unfold V3 at h;by_cases q:j<(runs ws).length
  ·rw[Ge (by simpa using q),Option.getD_some]at h;have h1:=List.mem_of_mem_drop h;rw[List.getElem_map]at h1;exact G _ ((z.mem _).2 ⟨_,List.getElem_mem q,rfl⟩) h1
  ·rw[List.getElem?_eq_none (by simpa using q),Option.getD_none]at h;have:=List.mem_of_mem_drop h;cases this
theorem Zib{ws:List ByteArray}(q:Se ws (runs ws)):Srt (Uq ws):=List.pairwise_map.2 (q.asc.imp (λh=>h.1))
structure Tb(w:World)(g n mb:Nat)(ws:List ByteArray):Prop where
 trie:Zkw w g n (Uq ws)
 dup:∃ l,Zq Tm mb l w/\Zfp l (runs ws)
theorem Tb.keep{S:Nat->Prop}{w w':World}{g n q:Nat}{ws:List ByteArray}(h:Tb w g n q ws)(f:Fr S w w')(h1:¬ S g)(h2:¬ S q):Tb w' g n q ws:=by
 obtain⟨⟨B,C,T,⟨cs,G,a2⟩,a3⟩,l,A,z⟩:=h;exact⟨⟨B,C,T,⟨cs,f.heap G h1,a2⟩,a3⟩,l,A.keep f h2,z⟩
theorem Zbl{V wr:World}{q ib0 X W N:Nat}{ws:List ByteArray}(h:Zd7 V q ib0 X W N ws ws.length wr)(J:Asc ws)(I:ws.length<=10000)(Y:∀ x∈ws,(0:UInt8) ∉ x.data.toList)(Z:Rc ws<=50000)(G:0<ws.length)(hN:N=ws.length) :
  Calls Tryz.prog 230 #[.slice (some ⟨q,0,none⟩) (runs ws).length N,.slice (some ⟨ib0,0,none⟩) (runs ws).length N] wr λe w'=>Zf wr w'/\∃ g n,e=.returned (.tuple #[.slice (some ⟨g,0,none⟩) n n,.nilIface])/\wr.heap.size<=g/\Zkw w' g n (Uq ws):=by
 have K:=Rh _ _ rfl J;have aa:=J9 ws;obtain⟨U,a2,_⟩:=h;rw[List.take_length]at U a2
 have z:0<(runs ws).length:=by
  obtain⟨r,hr,_⟩:=(K.mem ws[0]).1 (List.getElem_mem G);exact List.length_pos_of_mem hr
 have M:=Zhr ((runs ws).map (·.1)) ((runs ws).map (·.2.1)) q 0 N ib0 0 N (Zg1 K I Y) wr ⟨λj L=>?_,λj L=>?_⟩ (by rw[Pq];exact Zib K) (by rw[Pq];exact Nt (Zhx ws) Z) (by simpa using z)
 ·rw[Pq]at M;simpa only [List.length_map] using M
 ·have A:j<(runs ws).length:=by simpa using L
  rw[Nat.zero_add,U.cell Om];simp[A]
 ·have A:j<(runs ws).length:=by simpa using L
  rw[Nat.zero_add,a2.cell Om];simp[A]
theorem Zg7(ws:List ByteArray)(kb ko kc:Nat)(w:World)(aj:∀ j (h:j<ws.length),w.cell? ⟨kb,ko+j,none⟩=some (.string ws[j]))(ab:Asc ws)(aq:∀ x∈ws,x≠ByteArray.empty)(ap:0<ws.length)(aw:ws.length<=10000)(hz:∀ x∈ws,(0:UInt8) ∉ x.data.toList)(hv:Rc ws<=50000) :
  Calls Tryz.prog 184 #[.slice (some ⟨kb,ko,none⟩) ws.length kc] w λe w'=>Zf w w'/\∃ g n mb,e=.returned (.tuple #[.agg #[.slice (some ⟨g,0,none⟩) n n,.map (some mb)],.nilIface])/\w.heap.size<=g/\w.heap.size<=mb/\Tb w' g n mb ws:=by
 obtain⟨is,ax,a6,ao,am⟩:=info_parts V5;obtain⟨ii,ay,bf,az,be⟩:=info_parts Jm
 have av:∀ W:World,(Instr.makeSlice 34 (.int .i64 0) (.int .i64 (ws.length:Int))).run Tryz.prog W=.ok (.slice (some ⟨W.heap.size,0,none⟩) 0 ws.length) (W.alloc (.cells (madeCells #[.string ⟨#[]⟩] ws.length) 9)):=λW=>by
  have:=run_make (P:=Tryz.prog) W 34 9 is _ Tryz.underlying34 ax a6 .i64 .i64 0 ws.length Om Om (by rw[am];omega) Om;rw[ao]at this;simpa [Value.cells] using this
 have au:∀ W:World,(Instr.makeSlice 23 (.int .i64 0) (.int .i64 (ws.length:Int))).run Tryz.prog W=.ok (.slice (some ⟨W.heap.size,0,none⟩) 0 ws.length) (W.alloc (.cells (madeCells #[.int .i64 0] ws.length) 3)):=λW=>by
  have:=run_make (P:=Tryz.prog) W 23 3 ii _ Tryz.underlying23 ay bf .i64 .i64 0 ws.length Om Om (by rw[be];omega) Om;rw[az]at this;simpa [Value.cells] using this
 have bb:=@run_makeMap Tryz.prog;have HW:=Hd (Ai1 aj (Ai1 ab aq));have HZ:=Hd (Ai1 hz hv);clear aj ab aq hz hv;go_enter Tryz.func184,Tryz.ntmps184
 go_wp2_with fail
 refine (Mm ws kb ko kc _ (λj h=>((((Fe w).alloc _).alloc _).alloc _).cell (HW.out.1 j h) id) HW.out.2.1 Om).mono ?_;rintro e w2 ⟨rfl,q,rfl⟩;go_upto_region 7 with fail
 have hd:∀ X:World,(X.drewN q).heap=X.heap:=λ_=>rfl
 generalize z:World.alloc _ _=L;have hE:Zf w L:=by rw[<- z];exact ((((((Fe w).alloc _).alloc _).alloc _).drewN q).alloc _ |>.alloc _ |>.alloc _)
 have ad:L.heap.size=w.heap.size+6:=by rw[<- z];simp only[Za,hd]
 have b0:L.heap[w.heap.size]?=some (.cells #[.slice none 0 0,.map none] 219 (0,0)):=by
  rw[<- z,alloc_old _ _ (by simp only[Za,hd];omega),alloc_old _ _ (by simp only[Za,hd];omega),alloc_old _ _ (by simp only[Za,hd];omega),hd,alloc_old _ _ (by simp only[Za];omega),alloc_old _ _ (by simp only[Za];omega),alloc_at]
 have b1:Zq Tm (w.heap.size+1) [] L:=by
  refine⟨#[],0,?_,rfl,MapKept.stamped_empty 0⟩;rw[<- z,alloc_old _ _ (by simp only[Za,hd];omega),alloc_old _ _ (by simp only[Za,hd];omega),alloc_old _ _ (by simp only[Za,hd];omega),hd,alloc_old _ _ (by simp only[Za];omega),alloc_at' _ _ (by simp only[Za])]
 have b2:L.heap[w.heap.size+1+1]?=some (.cells #[.slice none 0 0,.map (some (w.heap.size+1))] 219 (0,0)):=by
  rw[<- z,alloc_old _ _ (by simp only[Za,hd];omega),alloc_old _ _ (by simp only[Za,hd];omega),alloc_old _ _ (by simp only[Za,hd];omega),hd,alloc_at' _ _ (by simp only[Za])]
 have b3:L.rowIs (w.heap.size+1+1+1) 9 ws.length (λ_=>.string ⟨#[]⟩):=by
  have:=World.rowIs_made (((((w.alloc (.cells #[.slice none 0 0,.map none] 219)).alloc (.map #[] 0)).alloc (.cells #[.slice none 0 0,.map (some (w.heap.size+1))] 219)).drewN q)) (.string ⟨#[]⟩) ws.length 9;rw[hd,Za,Za,Za]at this;rw[<- z];exact (this.alloc _).alloc _
 have b4:L.rowIs (w.heap.size+1+1+1+1) 3 ws.length (λ_=>.int .i64 0):=by
  have:=World.rowIs_made ((((((w.alloc (.cells #[.slice none 0 0,.map none] 219)).alloc (.map #[] 0)).alloc (.cells #[.slice none 0 0,.map (some (w.heap.size+1))] 219)).drewN q)).alloc (.cells (madeCells #[.string ⟨#[]⟩] ws.length) 9)) (.int .i64 0) ws.length 3;rw[Za,hd,Za,Za,Za]at this;rw[<- z];exact this.alloc _
 have b5:L.heap[w.heap.size+1+1+1+1+1]?=some (.cells #[.int .i64 ((0:Nat):Int),.string ByteArray.empty] 365 (0,0)):=by
  rw[<- z,alloc_at' _ _ (by simp only[Za,hd])];rfl
 have HE:=Hd (Ai1 hE (Ai1 b0 (Ai1 b2 ad)))
 have I:Hid (Zd7 L (w.heap.size+1+1+1) (w.heap.size+1+1+1+1) (w.heap.size+1) (w.heap.size+1+1+1+1+1) ws.length ws 0 L):=by
  refine⟨b3.congr (λi hi=>rfl),b4.congr (λi hi=>rfl),⟨0,ByteArray.empty,b5,Om,rfl,rfl⟩,⟨[],b1,λr hr=>by simp[runs]at hr,λi _=>rfl⟩,Fl _⟩
 clear z hE b0 b1 b2 b3 b4 b5 hd av au bb ad;obtain⟨N,hN⟩:∃ N,N=w.heap.size:=⟨_,rfl⟩;rw[<- hN]at I HE⊢;have HN:=Hd hN;clear hN;go_wp2_with fail
 go_loopw [5,6,28] (λkv iv v wr=>∃ k:Nat,k<=ws.length/\v=.int .i64 k/\kv=.slice (some ⟨N+1+1+1,0,none⟩) (runs (ws.take k)).length ws.length/\iv=.slice (some ⟨N+1+1+1+1,0,none⟩) (runs (ws.take k)).length ws.length /\
  Hid (Zd7 L (N+1+1+1) (N+1+1+1+1) (N+1) (N+1+1+1+1+1) ws.length ws k wr)) (λ_ _ v _=>ws.length-(intOf v).toNat)
 case atStart=>exact⟨0,Nat.zero_le _,rfl,rfl,rfl,I⟩
 case round =>
  clear I;obtain⟨k,hk,rfl,rfl,rfl,I⟩:=hrel;have bw:(runs (ws.take k)).length<=k:=by have:=J9 (ws.take k);rw[List.length_take]at this;omega
  by_cases U:k<ws.length
  ·have bx:kb<N:=by rw[HN.out];exact lt_of_cell (HW.out.1 k U)
   have ah:=I.out.fr;have bh:wr.cell? ⟨kb,ko+k,none⟩=some (.string ws[k]):=ah.cell (HE.out.1.cell (HW.out.1 k U) id) (by simp only;omega)
   have ac:wr.cell? ⟨N+1+1,1,none⟩=some (.map (some (N+1))):=by
    have:=ah.heap HE.out.2.2.1 Om;simp[World.cell?,this]
   obtain⟨pf,pk,K,bv,V⟩:=I.out.prev;have p0:wr.cell? ⟨N+1+1+1+1+1,0,none⟩=some (.int .i64 (pf:Int)):=(by simp[World.cell?,K]);have p1:wr.cell? ⟨N+1+1+1+1+1,1,none⟩=some (.string pk):=(by simp[World.cell?,K]);have f0:wr.frozen? ⟨N+1+1+1+1+1,0,none⟩=false:=(by simp[World.frozen?,K]);have f1:wr.frozen? ⟨N+1+1+1+1+1,1,none⟩=false:=(by simp[World.frozen?,K]);have M:ws[k]≠ByteArray.empty:=HW.out.2.2 _ (List.getElem_mem U);obtain⟨x,hx⟩:∃ x,x=ws[k]:=⟨_,rfl⟩;rw[<- hx]at bh M;have HL:=Hd (Ai1 hx (Ai1 V (Ai1 K M)));clear ah V K hx M;by_cases hs:x=pk
   ·have bi:(x.toList==pk.toList)=true:=by rw[hs];simp
    obtain⟨l,hm,Y⟩:=I.out.dup;obtain⟨e,⟨he,bz⟩,a1⟩:=Zma HL hs Y (Rh _ _ rfl (HW.out.2.1.sublist (List.take_sublist k ws)));have HM:=Hd (Ai1 hm (Ai1 Y (Ai1 hs he)));have bd:(look l ((pf:Nat):Int)).getD (.int .i32 0)=.int .i32 (e:Int):=a1;clear hm Y hs a1 he
    go_wp2_with (first
     | (at_lookup;refine Zk rfl _ _ false rfl T9 Tryz.underlying100 Tryz.underlying21 (Rb _) rfl HM.out.1 (pf:Int) rfl ?_;simp only[Bool.false_eq_true,if_false,bd])
     | (at_mapUpdate;refine Yd rfl _ _ _ rfl T9 Tryz.underlying100 Tryz.underlying21 rfl HM.out.1 (pf:Int) (.int .i32 ((e:Int)+1)) rfl rfl ?_;intro w2 bc bg am)
     | fail)
    go_roundw
    case rel =>
     obtain⟨q1,q2⟩:=Zl9 I.out HM.out.2.2.2 U (by rw[<- HM.out.2.2.1];exact HL.out.1.symm) (Rh _ _ rfl (HW.out.2.1.sublist (List.take_sublist k ws))) HM.out.2.1 bc bg ⟨Om,Om,Om⟩;exact⟨k+1,Om,by go_num,by rw[q2],by rw[q2],q1⟩
    case measure=>simp[intOf];omega
   ·have bi:(x.toList==pk.toList)=false:=by
     cases hb:x.toList==pk.toList with
     | false=>rfl
     | true=>exact absurd (toList_inj (by simpa using hb)) hs
    have ar:(runs (ws.take k)).length<ws.length:=Om;have K0:=I.out.kr;have I0:=I.out.ir;have HR:=Hd (Ai1 K0 I0);have HS:=Hd hs;clear K0 I0 hs
    go_wp2_with (first
     | (at_builtin;refine Ui rfl _ _ 34 rfl Tryz.underlying34 ax ao rfl (((HR.out.1.setOther (by simp only;omega) _).setOther (by simp only;omega) _).alloc _) ar ⟨wr.heap.size,0,none⟩ 1 (.string x) rfl (by have:=cell_one_new ((wr.setCell ⟨N+1+1+1+1+1,0,none⟩ (.int .i64 (k:Int))).setCell ⟨N+1+1+1+1+1,1,none⟩ (.string x)) (.string x) 9;simpa [World.setCell] using this) rfl ?_;intro w3 a8 ag al;have bo:=Hd al;clear al)
     | (at_builtin;refine Ui rfl _ _ 23 rfl Tryz.underlying23 ay az rfl ((Wa (((HR.out.2.setOther (by simp only;omega) _).setOther (by simp only;omega) _).alloc _) ag (by show ¬ _=_;omega)).alloc _) ar ⟨w3.heap.size,0,none⟩ 1 (.int .i64 (k:Int)) rfl (cell_one_new _ _ _) rfl ?_;intro w4 a7 af bt)
     | fail)
    go_roundw
    case rel =>
     have hb:=Ex (x':=.int .i64 (k:Int)) (y':=.string x) HL.out.2.2.1
     have f1:Fr (λj=>j=N+1+1+1\/j=N+1+1+1+1\/j=N+1+1+1+1+1) wr w4 :=
      ((((((Fl wr).setCell _ _ (λ_=>.inr (.inr rfl))).setCell _ _ (λ_=>.inr (.inr rfl))).alloc _).trans ag (λj _ e=>.inl e)).alloc _).trans af (λj _ e=>.inr (.inl e))
     have bq:w3.heap.size=wr.heap.size+1:=by rw[bo.out,Za];simp[World.setCell]
     have bs:N+1+1+1+1+1<wr.heap.size:=(Gs1.1 HL.out.2.2.1).1;have A:=af.heap (by rw[alloc_old _ _ Om];exact ag.heap (by rw[alloc_old _ _ (by simp[World.setCell];omega)];exact hb) Om) ((Om:¬ N+1+1+1+1+1=N+1+1+1+1));obtain⟨q1,q2⟩:=Znl I.out HL.out.2.1 U Om HL.out.1 HS.out (Rh _ _ rfl (HW.out.2.1.sublist (List.take_sublist k ws))) (Wa (a8.alloc _) af Om) a7 A f1 ⟨Om,Om,Om⟩;exact⟨k+1,Om,by go_num,by rw[q2],by rw[q2],q1⟩
    case measure=>simp[intOf];omega
  ·obtain rfl:k=ws.length:=Om
   try rw[List.take_length]
   have Z:=Zbl I.out HW.out.2.1 aw HZ.out.1 HZ.out.2 ap rfl;have ac:=I.out.fr.heap HE.out.2.2.1 Om;have ak:=I.out.fr.heap HE.out.2.1 Om;have bu:=I.out.fr.size;have ai:=Hd Z;have HB:=Hd (Ai1 ac ak);clear Z ac ak
   go_wp2_with (first
    | (go_at_call 230;refine ai.out.mono ?_;rintro e w5 ⟨J,g,n,rfl,ae,aa⟩;have A:=J.heap HB.out.1 id;have G:=J.heap HB.out.2 id;have bl:=Of A;have bk:=Qr A;have f4:=λo=>Jn A o;have bn:=Of G;have bm:=Qr G;have f2:=λo=>Jn G o;have H5:=Hd (Ai1 J (Ai1 ae (Ai1 aa (Ai1 A G))));clear J ae aa A G)
    | fail)
   obtain⟨J,ae,aa,A,G⟩:=H5.out
   have k1:(w5.setCell ⟨N+1+1,0,none⟩ (.slice (some ⟨g,0,none⟩) n n)).heap[N]?=some (.cells #[.slice none 0 0,.map none] 219 (0,0)):=by
    rw[Below.heap_setCell _ _ _ _ (by simp only;omega)];exact G
   have k2:=Ex (x':=.slice (some ⟨g,0,none⟩) n n) (y':=.map (some (N+1))) k1
   have F6:Fr (λj=>j=N\/j=N+1+1) w5 (((w5.setCell ⟨N+1+1,0,none⟩ (.slice (some ⟨g,0,none⟩) n n)).setCell ⟨N,0,none⟩ (.slice (some ⟨g,0,none⟩) n n)).setCell ⟨N,1,none⟩ (.map (some (N+1)))) :=
    (((Fl _).setCell _ _ (λ_=>.inr rfl)).setCell _ _ (λ_=>.inl rfl)).setCell _ _ (λ_=>.inl rfl)
   generalize World.setCell (World.setCell (World.setCell _ _ _) _ _) _ _=w6 at k2 F6⊢;have z0:=Of k2;have z1:=Qr k2;clear bl bk f4 bn bm f2 A G k1 k2;refine bodyPost_ret (by simp[results,Tryz.results184,z0,z1,go_sem];try rfl) rfl ?_;have bj:Zf w w5:=(HE.out.1.trans I.out.fr (λj hj e=>by have:=HN.out;omega)).ext J;have ad:=HE.out.2.2.2;have hN:=HN.out;obtain⟨l,hm,hd⟩:=I.out.dup;rw[List.take_length]at hd;refine⟨bj.trans F6 (λj hj e=>Om),g,n,N+1,rfl,Om,Om,(Tb.keep ⟨aa,l,hm.keep J id,hd⟩ F6 Om Om)⟩
end Go.Proofs.YtlfoalomaofejaaGreatDoor
