/- BuildIndexTable. -/
import Derived.Test.YtlfoalomaofejaaGreatDoorC15
import Derived.Handy
set_option linter.all false
set_option maxRecDepth 100000
set_option maxHeartbeats 2000000
namespace Go.Proofs.YtlfoalomaofejaaGreatDoor
open Go.RowKit TR
theorem Er{w:World}{g:Nat}{e:TypeId}{cap n:Nat}{f:Nat->Value}{x:Value}{cur:Array Value}(hg:w.heap[g]?=some (.cells cur e (0,0)))(hs:cur.size=cap)(hc:∀ i,i<cap->cur[i]?=some (f i))(hn:n<cap) :
  (w.setRow g (cur.toList.take n++[x]++cur.toList.drop (n+1)).toArray).rowIs g e cap (λj=>if j=n then x else f j):=by
 refine⟨_,setRow_heap w g cur _ e _ hg,?_,λi hi=>?_⟩
 ·simp;omega
 ·rw[List.getElem?_toArray];show _=some (if i=n then x else f i);have hi':=hc i hi;by_cases e1:i<n
  ·rw[List.append_assoc,List.getElem?_append_left (by simp;omega),List.getElem?_take,if_pos e1,if_neg Om,Array.getElem?_toList];exact hi'
  ·by_cases e2:i=n
   ·subst e2;rw[if_pos rfl,List.append_assoc,List.getElem?_append_right (by rw[List.length_take,Array.length_toList];omega),List.length_take,Array.length_toList,(Om:i-min i cur.size=0)];rfl
   ·rw[if_neg e2,List.getElem?_append_right (by simp;omega),List.getElem?_drop];simp only[List.length_append,List.length_take,Array.length_toList,List.length_singleton];rw[(Om:n+1+(i-(min n cur.size+1))=i),Array.getElem?_toList];exact hi'
theorem V9{P:Program}{w:World}{ops:Array Oper}{rest:List Oper}{o:Oper}{a:Act}{Q:Exit->Act->World->Prop}(hgd:o.guard=none)(s x:Operand)(t:TypeId)
  (ho:o.op=.call { callee:=.builtin .append,args:=#[s,x],argTypes:=#[t,t] }) {e:TypeId} {i:TypeInfo} (ht:P.underlying t=some (.slice e)) (hi:P.info? e=some i) (hsize:i.size=1)
  {g n cap:Nat} {f:Nat->Value} (hs:a.eval s=.slice (some ⟨g,0,none⟩) n cap) (hrow:w.rowIs g e cap f) (hn:n<cap)
  (ad:Addr) (c:Nat) (u:Value) (hx:a.eval x=.slice (some ad) 1 c) (hu:∀ j u',[u][j]?=some u'->w.cell? (ad.add j)=some u') (h1:u.oneCell'=true)
  (h:∀ w',w'.rowIs g e cap (λj=>if j=n then u else f j)->Fr (λk=>k=g) w w'->w'.heap.size=w.heap.size->wpList P ops Q rest (a.put o.dst (.slice (some ⟨g,0,none⟩) (n+1) cap)) w') :
  wpList P ops Q (o::rest) a w:=by
 refine wpList_plain hgd λK hK=>?_
 obtain⟨cur,hg,hsz,hc⟩:=hrow;have hr:=run_append_room (P:=P) w t o.type e i ht hi g n cap cur hg ad 1 c [u] (by rw[hsize];rfl) hu (λv hv=>by rw[List.mem_singleton.1 hv];exact h1) Om (by rw[hsize];simp;omega);rw[hsize,Nat.mul_one]at hr;unfold Oper.wp execOp;simp only[ho,resolve,invoke,builtin,Sem.run_bind,Sem.run_pure,Result.andThen_ok,List.map_toArray,List.map_cons,List.map_nil,hs,hx,hr];exact hK _ _ (h _ (Er hg hsz hc hn) ((Fl _).setRow _ _ (λ_=>rfl)) (by simp[World.setRow]))
theorem Sw:Kh (κ:=Int) (.int .i32) (Value.int .i32):=⟨λ_=>rfl,λa b h=>by cases h;rfl⟩
abbrev Tg:Int->Value:=Value.int .i32
def Zeo(l:List (Int×Value))(R:List Dz):Prop :=
 (∀ r∈R,look l (r.2.1:Int)=if r.2.2=0 then none else some (.int .i32 (r.2.2:Int)))/\∀ i:Int,(∀ r∈R,(r.2.1:Int)≠i)->look l i=none
theorem U7:(Tryz.prog.info? 9).map (λi=>(i.zero,i.size,i.bytes))=some (some (.string ⟨#[]⟩),1,16):=Kr
theorem R7(w:World):(zeroValue 21).run Tryz.prog w=.ok (.int .i32 0) w:=Kr
structure Zdg(wm:World)(kb0 ib0 mb pv N:Nat)(ws:List ByteArray)(k:Nat)(wr:World):Prop where
 kr:wr.rowIs kb0 9 N (λj=>match (runs (ws.take k))[j]? with|some r=>.string r.1|none=>.string ⟨#[]⟩)
 ir:wr.rowIs ib0 3 N (λj=>match (runs (ws.take k))[j]? with|some r=>.int .i64 (r.2.1:Int)|none=>.int .i64 0)
 prev:∃ pf pk,wr.heap[pv]?=some (.cells #[.int .i64 ((pf:Nat):Int),.string pk] 365 (0,0))/\pf<10000/\(match (runs (ws.take k)).getLast? with|some r=>pk=r.1/\pf=r.2.1|none=>pk=ByteArray.empty/\pf=0)
 dup:∃ l,Zz Tg mb l wr/\Zeo l (runs (ws.take k))
 fr:Fr (λj=>j=kb0\/j=ib0\/j=mb\/j=pv) wm wr
theorem Hx{ws:List ByteArray}{k:Nat}(hk:k<ws.length):runs (ws.take (k+1))=Sk (runs (ws.take k)) k ws[k]:=by
 rw[List.take_succ_eq_append_getElem hk,Pv,List.length_take,Nat.min_eq_left Om]
theorem Jp(ws:List ByteArray):(runs ws).length<=ws.length:=by
 induction h:ws.length generalizing ws with
 | zero=>rw[List.eq_nil_of_length_eq_zero h];simp[runs]
 | succ n ih =>
  obtain⟨m,c,rfl⟩:∃ m c,ws=m++[c]:=⟨ws.dropLast,ws.getLast (by intro e;simp[e]at h),(List.dropLast_concat_getLast _).symm⟩;have:=ih m (by simpa using h);rw[Pv];unfold Sk
  split
  ·rename_i a f e hl
   split
   ·rw[List.length_append,List.length_dropLast];simp;omega
   ·simp;omega
  ·simp
theorem toList_inj{a b:ByteArray}(h:a.toList=b.toList):a=b:=Lm (by rw[ByteArray.toList_eq,ByteArray.toList_eq]at h;exact h)
theorem Rm.at{ws:List ByteArray}{R:List Dz}(h:Rm ws R){r:Dz}(hr:r∈R):ws[r.2.1]?=some r.1:=by
 have h1:=h.idx r hr;have h2:r.2.1∈Ib ws r.1:=by rw[h1,List.mem_range'_1];omega
 obtain⟨h3,h4⟩:=List.mem_filter.1 h2;have h5:r.2.1<ws.length:=by simpa using h3
 rw[Ge h5]at h4⊢;simpa using h4
theorem Xs{S:Nat->Prop}{w w':World}{g n:Nat}{e:TypeId}{f:Nat->Value}(h:w.rowIs g e n f)(hf:Fr S w w')(hs:¬ S g):w'.rowIs g e n f:=h.of_block (hf.block g h.lt hs)
theorem Zle{wm wr w2:World}{kb0 ib0 mb pv N k pf e:Nat}{ws:List ByteArray}{pk:ByteArray}{l:List (Int×Value)}(h:Zdg wm kb0 ib0 mb pv N ws k wr)(hl:(runs (ws.take k)).getLast? = some (pk,pf,e))(hlt:k<ws.length)(hx:ws[k]=pk)
  (ho:Rm (ws.take k) (runs (ws.take k))) (hd:Zeo l (runs (ws.take k))) (hm:Zz Tg mb (put l (pf:Int) (.int .i32 ((e:Int)+1))) w2) (hf:Fr (λj=>j=mb) wr w2) (hne:mb≠kb0/\mb≠ib0/\mb≠pv) :
  Zdg wm kb0 ib0 mb pv N ws (k+1) w2/\(runs (ws.take (k+1))).length=(runs (ws.take k)).length:=by
 have hr:=Hx hlt
 obtain⟨R',hR'⟩:∃ R',runs (ws.take k)=R'++[(pk,pf,e)]:=by
  have hne:runs (ws.take k)≠[]:=by intro q;rw[q]at hl;cases hl
  refine⟨(runs (ws.take k)).dropLast,?_⟩;rw[List.getLast?_eq_some_getLast hne]at hl;injection hl with hl
  rw[<- hl];exact (List.dropLast_concat_getLast hne).symm
 have hst:runs (ws.take (k+1))=R'++[(pk,pf,e+1)]:=by
  rw[hr,hx,hR'];simp[Sk]
 obtain⟨a1,a2,⟨pf',pk',a3,a4,a5⟩,_,a7⟩:=h
 have hmap:(runs (ws.take (k+1))).map (λr:Dz=>(r.1,r.2.1))=(runs (ws.take k)).map (λr:Dz=>(r.1,r.2.1)):=by
  rw[hst,hR'];simp
 have hg:∀ j:Nat,((runs (ws.take (k+1)))[j]?).map (λr:Dz=>(r.1,r.2.1))=((runs (ws.take k))[j]?).map (λr:Dz=>(r.1,r.2.1)):=λj=>by
  rw[<- List.getElem?_map,<- List.getElem?_map,hmap]
 refine⟨⟨(Xs a1 hf (Ne.symm hne.1)).congr (λj _=>?_),(Xs a2 hf (Ne.symm hne.2.1)).congr (λj _=>?_),⟨pf',pk',hf.heap a3 (Ne.symm hne.2.2),a4,?_⟩,⟨_,hm,?_⟩,a7.trans hf (λj _ e=>.inr (.inr (.inl e)))⟩,by rw[hst,hR'];simp⟩
 ·have:=hg j;cases h1:(runs (ws.take (k+1)))[j]?<;>cases h2:(runs (ws.take k))[j]?<;>rw[h1,h2]at this<;>simp at this⊢;exact this.1.symm
 ·have:=hg j;cases h1:(runs (ws.take (k+1)))[j]?<;>cases h2:(runs (ws.take k))[j]?<;>rw[h1,h2]at this<;>simp at this⊢;exact this.2.symm▸rfl
 ·rw[hl]at a5;rw[hst];simpa using a5
 ·rw[hR']at hd ho;rw[hst];refine⟨λr hrm=>?_,λy hy=>?_⟩
  ·rw[Wi];rcases List.mem_append.1 hrm with hrm|hrm
   ·have h1:=ho.at (List.mem_append_left _ hrm);have h2:=ho.at (r:=(pk,pf,e)) (by simp);have hne:=((List.pairwise_append.1 ho.asc).2.2 r hrm (pk,pf,e) (by simp)).2;rw[if_neg (λq=>?_)]
    ·exact hd.1 r (List.mem_append_left _ hrm)
    ·have:pf=r.2.1:=Om;rw[<- this]at h1;rw[h2]at h1;injection h1 with h1
     exact hne h1.symm
   ·rw[List.mem_singleton.1 hrm];simp
  ·rw[Wi,if_neg (hy (pk,pf,e+1) (by simp))];refine hd.2 y (λr hrm=>?_);rcases List.mem_append.1 hrm with hrm|hrm
   ·exact hy r (List.mem_append_left _ hrm)
   ·rw[List.mem_singleton.1 hrm];exact hy (pk,pf,e+1) (by simp)
theorem Zmk{wm wr w2:World}{kb0 ib0 mb pv N k pf:Nat}{ws:List ByteArray}{pk x:ByteArray}(h:Zdg wm kb0 ib0 mb pv N ws k wr)(hl:match (runs (ws.take k)).getLast? with|some r=>pk=r.1/\pf=r.2.1|none=>pk=ByteArray.empty/\pf=0)(hlt:k<ws.length)(hk:k<10000)(hx:x=ws[k])(hn:¬ x=pk)
  (ho:Rm (ws.take k) (runs (ws.take k)))
  (hk2:w2.rowIs kb0 9 N (λj=>if j=(runs (ws.take k)).length then .string x else match (runs (ws.take k))[j]? with|some r=>.string r.1|none=>.string ⟨#[]⟩))
  (hi2:w2.rowIs ib0 3 N (λj=>if j=(runs (ws.take k)).length then .int .i64 (k:Int) else match (runs (ws.take k))[j]? with|some r=>.int .i64 (r.2.1:Int)|none=>.int .i64 0))
  (hp:w2.heap[pv]?=some (.cells #[.int .i64 (k:Int),.string x] 365 (0,0))) (hf:Fr (λj=>j=kb0\/j=ib0\/j=pv) wr w2) (hne:mb≠kb0/\mb≠ib0/\mb≠pv) :
  Zdg wm kb0 ib0 mb pv N ws (k+1) w2/\(runs (ws.take (k+1))).length=(runs (ws.take k)).length+1:=by
 have hst:runs (ws.take (k+1))=runs (ws.take k)++[(x,k,0)]:=by
  rw[Hx hlt,<- hx];unfold Sk
  cases hg:(runs (ws.take k)).getLast? with
  | none=>rw[List.getLast?_eq_none_iff.1 hg];rfl
  | some r =>
   rw[hg]at hl;simp only;rw[if_neg (λq=>hn (q.trans hl.1.symm))]
 obtain⟨a1,a2,_,⟨l,a5,a6⟩,a7⟩:=h;refine⟨⟨hk2.congr (λj _=>?_),hi2.congr (λj _=>?_),⟨k,x,hp,hk,?_⟩,⟨l,a5.keep hf (λe=>?_),?_⟩,a7.trans hf (λj _ e=>?_)⟩,by rw[hst];simp⟩
 ·rw[hst];by_cases e:j=(runs (ws.take k)).length
  ·subst e;simp
  ·rw[if_neg e];by_cases e2:j<(runs (ws.take k)).length
   ·rw[List.getElem?_append_left e2]
   ·rw[List.getElem?_eq_none Om,List.getElem?_eq_none (by simp;omega)]
 ·rw[hst];by_cases e:j=(runs (ws.take k)).length
  ·subst e;simp
  ·rw[if_neg e];by_cases e2:j<(runs (ws.take k)).length
   ·rw[List.getElem?_append_left e2]
   ·rw[List.getElem?_eq_none Om,List.getElem?_eq_none (by simp;omega)]
 ·rw[hst];simp
 ·rcases e with e|e|e
  ·exact hne.1 e
  ·exact hne.2.1 e
  ·exact hne.2.2 e
 ·rw[hst];have hlt':∀ r∈runs (ws.take k),r.2.1<k:=λr hr=>by have:=ho.lt r hr;rw[List.length_take]at this;omega
  refine⟨λr hr=>?_,λy hy=>a6.2 y (λr hr=>hy r (List.mem_append_left _ hr))⟩;rcases List.mem_append.1 hr with hr|hr
  ·exact a6.1 r hr
  ·rw[List.mem_singleton.1 hr];simp only[if_true];exact a6.2 _ (λr hr=>by have:=hlt' r hr;omega)
 ·rcases e with e|e|e
  ·exact .inl e
  ·exact .inr (.inl e)
  ·exact .inr (.inr (.inr e))
theorem Fz{w:World}{b:Nat}{t:TypeId}{x y x' y':Value}(h:w.heap[b]?=some (.cells #[x,y] t (0,0))):((w.setCell ⟨b,0,none⟩ x').setCell ⟨b,1,none⟩ y').heap[b]?=some (.cells #[x',y'] t (0,0)):=by
 simp[World.setCell,Array.getElem?_modify,h]
theorem Zlf{ws:List ByteArray}{k pf:Nat}{pk x:ByteArray}{hlt:k<ws.length}{l:List (Int×Value)}{p:Prop}
  (HL:Hid (x=ws[k]/\(match (runs (ws.take k)).getLast? with|some r=>pk=r.1/\pf=r.2.1|none=>pk=ByteArray.empty/\pf=0)/\p/\x≠ByteArray.empty)) (hs:x=pk) (hd:Zeo l (runs (ws.take k))) (ho:Rm (ws.take k) (runs (ws.take k))) :
  ∃ e,((runs (ws.take k)).getLast? = some (pk,pf,e)/\e<ws.length)/\(look l ((pf:Nat):Int)).getD (.int .i32 0)=.int .i32 (e:Int):=by
 obtain⟨_,hl,_,hne⟩:=HL.out
 cases hg:(runs (ws.take k)).getLast? with
 | none =>
  rw[hg]at hl;exact absurd (hs.trans hl.1) hne
 | some r =>
  obtain⟨a,f,e⟩:=r;rw[hg]at hl;obtain⟨rfl,rfl⟩:=hl;refine⟨e,⟨rfl,?_⟩,?_⟩
  ·have:=ho.lt _ (List.mem_of_getLast? hg);rw[List.length_take]at this;simp only at this;omega
  ·rw[hd.1 (pk,pf,e) (List.mem_of_getLast? hg)];by_cases h0:e=0
   ·subst h0;rfl
   ·simp[h0]
theorem P4{w:World}{b:Nat}{t:TypeId}{x y:Value}(h:w.heap[b]?=some (.cells #[x,y] t (0,0))):w.cell? ⟨b,0,none⟩=some x:=by simp[World.cell?,h]
theorem Qo{w:World}{b:Nat}{t:TypeId}{x y:Value}(h:w.heap[b]?=some (.cells #[x,y] t (0,0))):w.cell? ⟨b,1,none⟩=some y:=by simp[World.cell?,h]
theorem Kt{w:World}{b:Nat}{t:TypeId}{cs:Array Value}(h:w.heap[b]?=some (.cells cs t (0,0)))(o:Nat):w.frozen? ⟨b,o,none⟩=false:=by simp[World.frozen?,h]
def Ui(ws:List ByteArray):List Key:=(runs ws).map λr=>(r.1.data.toList,r.2.1)
theorem Pe(ws:List ByteArray):Zv ((runs ws).map (·.1)) ((runs ws).map (·.2.1)) 0 (List.range ((runs ws).map (·.1)).length)=Ui ws:=by
 apply List.ext_getElem
 ·simp[Zv,Ui]
 ·intro i h1 h2;have h3:i<(runs ws).length:=by simpa [Ui] using h2
  simp[Zv,Rw,Vx,Ui,h3]
def R8(ws:List ByteArray):Nat:=(ws.map λx=>x.size+1).sum
theorem Jc(a b:List Key):Ro (a++b)=Ro a+Ro b:=by simp[Ro]
theorem Zgu(ws:List ByteArray):Ro (Ui ws)<=R8 ws:=by
 induction h:ws.length generalizing ws with
 | zero=>rw[List.eq_nil_of_length_eq_zero h];simp[Ui,runs,Ro]
 | succ n ih =>
  obtain⟨m,c,rfl⟩:∃ m c,ws=m++[c]:=⟨ws.dropLast,ws.getLast (by intro e;simp[e]at h),(List.dropLast_concat_getLast _).symm⟩;have:=ih m (by simpa using h);have hw:R8 (m++[c])=R8 m+(c.size+1):=by simp[R8]
  unfold Ui at this⊢;rw[hw,Pv];unfold Sk;rcases List.eq_nil_or_concat (runs m) with e|⟨R',r,e⟩
  ·rw[e];simp[Ro]
  ·obtain⟨a,f,x⟩:=r;rw[List.concat_eq_append]at e;rw[e]at this⊢;simp only[List.getLast?_append,List.getLast?_singleton,Option.some_or,List.dropLast_concat]
   split
   ·rw[List.map_append,Jc]at this⊢;simp[Ro]at this⊢;omega
   ·rw[List.map_append,Jc];have:Ro (List.map (λr:Dz=>(r.1.data.toList,r.2.1)) [(c,m.length,0)])=c.size+1:=(by simp[Ro]);omega
theorem Zfy{ws:List ByteArray}(ho:Rm ws (runs ws))(hlen:ws.length<=10000)(hz:∀ x∈ws,(0:UInt8) ∉ x.data.toList):Mq ((runs ws).map (·.1)) ((runs ws).map (·.2.1)):=by
 have hrl:=Jp ws;refine⟨by simp,by simp;omega,λx hx=>?_,λi j hm=>?_⟩
 ·obtain⟨r,hr,rfl⟩:=List.mem_map.1 hx;have:=ho.lt r hr;omega
 ·unfold Vx at hm;by_cases hj:j<(runs ws).length
  ·rw[Ge (by simpa using hj),Option.getD_some]at hm;have h1:=List.mem_of_mem_drop hm;rw[List.getElem_map]at h1;exact hz _ ((ho.mem _).2 ⟨_,List.getElem_mem hj,rfl⟩) h1
  ·rw[List.getElem?_eq_none (by simpa using hj),Option.getD_none]at hm;have:=List.mem_of_mem_drop hm;cases this
theorem Zhc{ws:List ByteArray}(ho:Rm ws (runs ws)):Srt (Ui ws):=List.pairwise_map.2 (ho.asc.imp (λh=>h.1))
structure U5(w:World)(g n mb:Nat)(ws:List ByteArray):Prop where
 trie:Zjr w g n (Ui ws)
 dup:∃ l,Zz Tg mb l w/\Zeo l (runs ws)
theorem U5.keep{S:Nat->Prop}{w w':World}{g n mb:Nat}{ws:List ByteArray}(h:U5 w g n mb ws)(f:Fr S w w')(h1:¬ S g)(h2:¬ S mb):U5 w' g n mb ws:=by
 obtain⟨⟨B,C,T,⟨cs,a1,a2⟩,a3⟩,l,b1,b2⟩:=h;exact⟨⟨B,C,T,⟨cs,f.heap a1 h1,a2⟩,a3⟩,l,b1.keep f h2,b2⟩
theorem Zav{wm wr:World}{kb0 ib0 mb pv N:Nat}{ws:List ByteArray}(h:Zdg wm kb0 ib0 mb pv N ws ws.length wr)(hasc:Asc ws)(hlen:ws.length<=10000)(hz:∀ x∈ws,(0:UInt8) ∉ x.data.toList)(hv:R8 ws<=50000)(hpos:0<ws.length)(hN:N=ws.length) :
  Calls Tryz.prog 230 #[.slice (some ⟨kb0,0,none⟩) (runs ws).length N,.slice (some ⟨ib0,0,none⟩) (runs ws).length N] wr λe w'=>Zf wr w'/\∃ g n,e=.returned (.tuple #[.slice (some ⟨g,0,none⟩) n n,.nilIface])/\wr.heap.size<=g/\Zjr w' g n (Ui ws):=by
 have ho:=Qc _ _ rfl hasc;have hrl:=Jp ws;obtain⟨a1,a2,_⟩:=h;rw[List.take_length]at a1 a2
 have hrpos:0<(runs ws).length:=by
  obtain⟨r,hr,_⟩:=(ho.mem ws[0]).1 (List.getElem_mem hpos);exact List.length_pos_of_mem hr
 have hc:=Zgp ((runs ws).map (·.1)) ((runs ws).map (·.2.1)) kb0 0 N ib0 0 N (Zfy ho hlen hz) wr ⟨λj hj=>?_,λj hj=>?_⟩ (by rw[Pe];exact Zhc ho) (by rw[Pe];exact Nt (Zgu ws) hv) (by simpa using hrpos)
 ·rw[Pe]at hc;simpa only [List.length_map] using hc
 ·have hj':j<(runs ws).length:=by simpa using hj
  rw[Nat.zero_add,a1.cell Om];simp[hj']
 ·have hj':j<(runs ws).length:=by simpa using hj
  rw[Nat.zero_add,a2.cell Om];simp[hj']
theorem Zf2(ws:List ByteArray)(kb ko kc:Nat)(w:World)(hws:∀ j (h:j<ws.length),w.cell? ⟨kb,ko+j,none⟩=some (.string ws[j]))(hasc:Asc ws)(hne:∀ x∈ws,x≠ByteArray.empty)(hpos:0<ws.length)(hlen:ws.length<=10000)(hz:∀ x∈ws,(0:UInt8) ∉ x.data.toList)(hv:R8 ws<=50000) :
  Calls Tryz.prog 184 #[.slice (some ⟨kb,ko,none⟩) ws.length kc] w λe w'=>Zf w w'/\∃ g n mb,e=.returned (.tuple #[.agg #[.slice (some ⟨g,0,none⟩) n n,.map (some mb)],.nilIface])/\w.heap.size<=g/\w.heap.size<=mb/\U5 w' g n mb ws:=by
 obtain⟨is,his,hs0,hs1,hs2⟩:=info_parts U7;obtain⟨ii,hii,hi0,hi1,hi2⟩:=info_parts Ks
 have hmk1:∀ W:World,(Instr.makeSlice 34 (.int .i64 0) (.int .i64 (ws.length:Int))).run Tryz.prog W=.ok (.slice (some ⟨W.heap.size,0,none⟩) 0 ws.length) (W.alloc (.cells (madeCells #[.string ⟨#[]⟩] ws.length) 9)):=λW=>by
  have:=run_make (P:=Tryz.prog) W 34 9 is _ Tryz.underlying34 his hs0 .i64 .i64 0 ws.length Om Om (by rw[hs2];omega) Om;rw[hs1]at this;simpa [Value.cells] using this
 have hmk2:∀ W:World,(Instr.makeSlice 23 (.int .i64 0) (.int .i64 (ws.length:Int))).run Tryz.prog W=.ok (.slice (some ⟨W.heap.size,0,none⟩) 0 ws.length) (W.alloc (.cells (madeCells #[.int .i64 0] ws.length) 3)):=λW=>by
  have:=run_make (P:=Tryz.prog) W 23 3 ii _ Tryz.underlying23 hii hi0 .i64 .i64 0 ws.length Om Om (by rw[hi2];omega) Om;rw[hi1]at this;simpa [Value.cells] using this
 have hmm:=@run_makeMap Tryz.prog;have HW:=Hd (Ai1 hws (Ai1 hasc hne));have HZ:=Hd (Ai1 hz hv);clear hws hasc hne hz hv;go_enter Tryz.func184,Tryz.ntmps184
 go_wp2_with fail
 refine (N1 ws kb ko kc _ (λj h=>((((Fe w).alloc _).alloc _).alloc _).cell (HW.out.1 j h) id) HW.out.2.1 Om).mono ?_;rintro e w2 ⟨rfl,q,rfl⟩;go_upto_region 7 with fail
 have hd:∀ X:World,(X.drewN q).heap=X.heap:=λ_=>rfl
 generalize hwm:World.alloc _ _=wm;have hE:Zf w wm:=by rw[<- hwm];exact ((((((Fe w).alloc _).alloc _).alloc _).drewN q).alloc _ |>.alloc _ |>.alloc _)
 have hsz:wm.heap.size=w.heap.size+6:=by rw[<- hwm];simp only[Za,hd]
 have b0:wm.heap[w.heap.size]?=some (.cells #[.slice none 0 0,.map none] 219 (0,0)):=by
  rw[<- hwm,alloc_old _ _ (by simp only[Za,hd];omega),alloc_old _ _ (by simp only[Za,hd];omega),alloc_old _ _ (by simp only[Za,hd];omega),hd,alloc_old _ _ (by simp only[Za];omega),alloc_old _ _ (by simp only[Za];omega),alloc_at]
 have b1:Zz Tg (w.heap.size+1) [] wm:=by
  refine⟨#[],0,?_,rfl,MapKept.stamped_empty 0⟩;rw[<- hwm,alloc_old _ _ (by simp only[Za,hd];omega),alloc_old _ _ (by simp only[Za,hd];omega),alloc_old _ _ (by simp only[Za,hd];omega),hd,alloc_old _ _ (by simp only[Za];omega),alloc_at' _ _ (by simp only[Za])]
 have b2:wm.heap[w.heap.size+1+1]?=some (.cells #[.slice none 0 0,.map (some (w.heap.size+1))] 219 (0,0)):=by
  rw[<- hwm,alloc_old _ _ (by simp only[Za,hd];omega),alloc_old _ _ (by simp only[Za,hd];omega),alloc_old _ _ (by simp only[Za,hd];omega),hd,alloc_at' _ _ (by simp only[Za])]
 have b3:wm.rowIs (w.heap.size+1+1+1) 9 ws.length (λ_=>.string ⟨#[]⟩):=by
  have:=World.rowIs_made (((((w.alloc (.cells #[.slice none 0 0,.map none] 219)).alloc (.map #[] 0)).alloc (.cells #[.slice none 0 0,.map (some (w.heap.size+1))] 219)).drewN q)) (.string ⟨#[]⟩) ws.length 9;rw[hd,Za,Za,Za]at this;rw[<- hwm];exact (this.alloc _).alloc _
 have b4:wm.rowIs (w.heap.size+1+1+1+1) 3 ws.length (λ_=>.int .i64 0):=by
  have:=World.rowIs_made ((((((w.alloc (.cells #[.slice none 0 0,.map none] 219)).alloc (.map #[] 0)).alloc (.cells #[.slice none 0 0,.map (some (w.heap.size+1))] 219)).drewN q)).alloc (.cells (madeCells #[.string ⟨#[]⟩] ws.length) 9)) (.int .i64 0) ws.length 3;rw[Za,hd,Za,Za,Za]at this;rw[<- hwm];exact this.alloc _
 have b5:wm.heap[w.heap.size+1+1+1+1+1]?=some (.cells #[.int .i64 ((0:Nat):Int),.string ByteArray.empty] 365 (0,0)):=by
  rw[<- hwm,alloc_at' _ _ (by simp only[Za,hd])];rfl
 have HE:=Hd (Ai1 hE (Ai1 b0 (Ai1 b2 hsz)))
 have HI:Hid (Zdg wm (w.heap.size+1+1+1) (w.heap.size+1+1+1+1) (w.heap.size+1) (w.heap.size+1+1+1+1+1) ws.length ws 0 wm):=by
  refine⟨b3.congr (λi hi=>rfl),b4.congr (λi hi=>rfl),⟨0,ByteArray.empty,b5,Om,rfl,rfl⟩,⟨[],b1,λr hr=>by simp[runs]at hr,λi _=>rfl⟩,Fl _⟩
 clear hwm hE b0 b1 b2 b3 b4 b5 hd hmk1 hmk2 hmm hsz;obtain⟨N,hN⟩:∃ N,N=w.heap.size:=⟨_,rfl⟩;rw[<- hN]at HI HE⊢;have HN:=Hd hN;clear hN;go_wp2_with fail
 go_loopw [5,6,28] (λkv iv v wr=>∃ k:Nat,k<=ws.length/\v=.int .i64 k/\kv=.slice (some ⟨N+1+1+1,0,none⟩) (runs (ws.take k)).length ws.length/\iv=.slice (some ⟨N+1+1+1+1,0,none⟩) (runs (ws.take k)).length ws.length /\
  Hid (Zdg wm (N+1+1+1) (N+1+1+1+1) (N+1) (N+1+1+1+1+1) ws.length ws k wr)) (λ_ _ v _=>ws.length-(intOf v).toNat)
 case atStart=>exact⟨0,Nat.zero_le _,rfl,rfl,rfl,HI⟩
 case round =>
  clear HI;obtain⟨k,hk,rfl,rfl,rfl,HI⟩:=hrel;have hnk:(runs (ws.take k)).length<=k:=by have:=Jp (ws.take k);rw[List.length_take]at this;omega
  by_cases hlt:k<ws.length
  ·have hkN:kb<N:=by rw[HN.out];exact lt_of_cell (HW.out.1 k hlt)
   have hFr:=HI.out.fr;have hck:wr.cell? ⟨kb,ko+k,none⟩=some (.string ws[k]):=hFr.cell (HE.out.1.cell (HW.out.1 k hlt) id) (by simp only;omega)
   have ht4:wr.cell? ⟨N+1+1,1,none⟩=some (.map (some (N+1))):=by
    have:=hFr.heap HE.out.2.2.1 Om;simp[World.cell?,this]
   obtain⟨pf,pk,hpv,hpf,hlast⟩:=HI.out.prev;have p0:wr.cell? ⟨N+1+1+1+1+1,0,none⟩=some (.int .i64 (pf:Int)):=(by simp[World.cell?,hpv]);have p1:wr.cell? ⟨N+1+1+1+1+1,1,none⟩=some (.string pk):=(by simp[World.cell?,hpv]);have f0:wr.frozen? ⟨N+1+1+1+1+1,0,none⟩=false:=(by simp[World.frozen?,hpv]);have f1:wr.frozen? ⟨N+1+1+1+1+1,1,none⟩=false:=(by simp[World.frozen?,hpv]);have hxne:ws[k]≠ByteArray.empty:=HW.out.2.2 _ (List.getElem_mem hlt);obtain⟨x,hx⟩:∃ x,x=ws[k]:=⟨_,rfl⟩;rw[<- hx]at hck hxne;have HL:=Hd (Ai1 hx (Ai1 hlast (Ai1 hpv hxne)));clear hFr hlast hpv hx hxne;by_cases hs:x=pk
   ·have hbe:(x.toList==pk.toList)=true:=by rw[hs];simp
    obtain⟨l,hm,hdup⟩:=HI.out.dup;obtain⟨e,⟨he,hew⟩,hel⟩:=Zlf HL hs hdup (Qc _ _ rfl (HW.out.2.1.sublist (List.take_sublist k ws)));have HM:=Hd (Ai1 hm (Ai1 hdup (Ai1 hs he)));have hlk:(look l ((pf:Nat):Int)).getD (.int .i32 0)=.int .i32 (e:Int):=hel;clear hm hdup hs hel he
    go_wp2_with (first
     | (at_lookup;refine Zk rfl _ _ false rfl Sw Tryz.underlying100 Tryz.underlying21 (R7 _) rfl HM.out.1 (pf:Int) rfl ?_;simp only[Bool.false_eq_true,if_false,hlk])
     | (at_mapUpdate;refine Yj rfl _ _ _ rfl Sw Tryz.underlying100 Tryz.underlying21 rfl HM.out.1 (pf:Int) (.int .i32 ((e:Int)+1)) rfl rfl ?_;intro w2 hm2 hf2 hs2)
     | fail)
    go_roundw
    case rel =>
     obtain⟨q1,q2⟩:=Zle HI.out HM.out.2.2.2 hlt (by rw[<- HM.out.2.2.1];exact HL.out.1.symm) (Qc _ _ rfl (HW.out.2.1.sublist (List.take_sublist k ws))) HM.out.2.1 hm2 hf2 ⟨Om,Om,Om⟩;exact⟨k+1,Om,by go_num,by rw[q2],by rw[q2],q1⟩
    case measure=>simp[intOf];omega
   ·have hbe:(x.toList==pk.toList)=false:=by
     cases hb:x.toList==pk.toList with
     | false=>rfl
     | true=>exact absurd (toList_inj (by simpa using hb)) hs
    have hnN:(runs (ws.take k)).length<ws.length:=Om;have K0:=HI.out.kr;have I0:=HI.out.ir;have HR:=Hd (Ai1 K0 I0);have HS:=Hd hs;clear K0 I0 hs
    go_wp2_with (first
     | (at_builtin;refine V9 rfl _ _ 34 rfl Tryz.underlying34 his hs1 rfl (((HR.out.1.setOther (by simp only;omega) _).setOther (by simp only;omega) _).alloc _) hnN ⟨wr.heap.size,0,none⟩ 1 (.string x) rfl (by have:=cell_one_new ((wr.setCell ⟨N+1+1+1+1+1,0,none⟩ (.int .i64 (k:Int))).setCell ⟨N+1+1+1+1+1,1,none⟩ (.string x)) (.string x) 9;simpa [World.setCell] using this) rfl ?_;intro w3 hr3 hf3 hs3;have HS3:=Hd hs3;clear hs3)
     | (at_builtin;refine V9 rfl _ _ 23 rfl Tryz.underlying23 hii hi1 rfl ((Xs (((HR.out.2.setOther (by simp only;omega) _).setOther (by simp only;omega) _).alloc _) hf3 (by show ¬ _=_;omega)).alloc _) hnN ⟨w3.heap.size,0,none⟩ 1 (.int .i64 (k:Int)) rfl (cell_one_new _ _ _) rfl ?_;intro w4 hr4 hf4 hs4)
     | fail)
    go_roundw
    case rel =>
     have hb:=Fz (x':=.int .i64 (k:Int)) (y':=.string x) HL.out.2.2.1
     have f1:Fr (λj=>j=N+1+1+1\/j=N+1+1+1+1\/j=N+1+1+1+1+1) wr w4 :=
      ((((((Fl wr).setCell _ _ (λ_=>.inr (.inr rfl))).setCell _ _ (λ_=>.inr (.inr rfl))).alloc _).trans hf3 (λj _ e=>.inl e)).alloc _).trans hf4 (λj _ e=>.inr (.inl e))
     have hs3':w3.heap.size=wr.heap.size+1:=by rw[HS3.out,Za];simp[World.setCell]
     have hpvl:N+1+1+1+1+1<wr.heap.size:=(Gs1.1 HL.out.2.2.1).1;have hb4:=hf4.heap (by rw[alloc_old _ _ Om];exact hf3.heap (by rw[alloc_old _ _ (by simp[World.setCell];omega)];exact hb) Om) ((Om:¬ N+1+1+1+1+1=N+1+1+1+1));obtain⟨q1,q2⟩:=Zmk HI.out HL.out.2.1 hlt Om HL.out.1 HS.out (Qc _ _ rfl (HW.out.2.1.sublist (List.take_sublist k ws))) (Xs (hr3.alloc _) hf4 Om) hr4 hb4 f1 ⟨Om,Om,Om⟩;exact⟨k+1,Om,by go_num,by rw[q2],by rw[q2],q1⟩
    case measure=>simp[intOf];omega
  ·obtain rfl:k=ws.length:=Om
   try rw[List.take_length]
   have hcall:=Zav HI.out HW.out.2.1 hlen HZ.out.1 HZ.out.2 hpos rfl;have ht4:=HI.out.fr.heap HE.out.2.2.1 Om;have ht2:=HI.out.fr.heap HE.out.2.1 Om;have hr0:=HI.out.fr.size;have HCall:=Hd hcall;have HB:=Hd (Ai1 ht4 ht2);clear hcall ht4 ht2
   go_wp2_with (first
    | (go_at_call 230;refine HCall.out.mono ?_;rintro e w5 ⟨hE5,g,n,rfl,hg5,hT5⟩;have hb4:=hE5.heap HB.out.1 id;have hb2:=hE5.heap HB.out.2 id;have c40:=P4 hb4;have c41:=Qo hb4;have f4:=λo=>Kt hb4 o;have c20:=P4 hb2;have c21:=Qo hb2;have f2:=λo=>Kt hb2 o;have H5:=Hd (Ai1 hE5 (Ai1 hg5 (Ai1 hT5 (Ai1 hb4 hb2))));clear hE5 hg5 hT5 hb4 hb2)
    | fail)
   obtain⟨hE5,hg5,hT5,hb4,hb2⟩:=H5.out
   have k1:(w5.setCell ⟨N+1+1,0,none⟩ (.slice (some ⟨g,0,none⟩) n n)).heap[N]?=some (.cells #[.slice none 0 0,.map none] 219 (0,0)):=by
    rw[Below.heap_setCell _ _ _ _ (by simp only;omega)];exact hb2
   have k2:=Fz (x':=.slice (some ⟨g,0,none⟩) n n) (y':=.map (some (N+1))) k1
   have F6:Fr (λj=>j=N\/j=N+1+1) w5 (((w5.setCell ⟨N+1+1,0,none⟩ (.slice (some ⟨g,0,none⟩) n n)).setCell ⟨N,0,none⟩ (.slice (some ⟨g,0,none⟩) n n)).setCell ⟨N,1,none⟩ (.map (some (N+1)))) :=
    (((Fl _).setCell _ _ (λ_=>.inr rfl)).setCell _ _ (λ_=>.inl rfl)).setCell _ _ (λ_=>.inl rfl)
   generalize World.setCell (World.setCell (World.setCell _ _ _) _ _) _ _=w6 at k2 F6⊢;have z0:=P4 k2;have z1:=Qo k2;clear c40 c41 f4 c20 c21 f2 hb4 hb2 k1 k2;refine bodyPost_ret (by simp[results,Tryz.results184,z0,z1,go_sem];try rfl) rfl ?_;have hEw:Zf w w5:=(HE.out.1.trans HI.out.fr (λj hj e=>by have:=HN.out;omega)).ext hE5;have hsz:=HE.out.2.2.2;have hN:=HN.out;obtain⟨l,hm,hd⟩:=HI.out.dup;rw[List.take_length]at hd;refine⟨hEw.trans F6 (λj hj e=>Om),g,n,N+1,rfl,Om,Om,(U5.keep ⟨hT5,l,hm.keep hE5 id,hd⟩ F6 Om Om)⟩
end Go.Proofs.YtlfoalomaofejaaGreatDoor
