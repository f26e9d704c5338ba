/- What a dictionary in memory tells of its words' parts of speech and contents, and of its marks. · Th -/
import Derived.Test.YtoliamijgmifkaaGreatDoorF42
import Derived.Laws.CopyOwn
set_option linter.all false
set_option maxRecDepth 100000
set_option maxHeartbeats 2000000
namespace Go.Proofs.YtoliamijgmifkaaGreatDoor
section
open Go.RowKit DT SS TR
theorem N9:∀ {l:List ByteArray} {s:ByteArray} {k:Nat},Xn l s=some k->l[k]? = some s
 | a::l,s,k,h=>by
  unfold Xn at h
  split at h
  ·next e=>cases h;rw[e];rfl
  ·cases hq:Xn l s with
   | none=>rw[hq]at h;cases h
   | some m =>
    rw[hq]at h;cases h;have:=N9 hq;simpa using this
theorem Kp:∀ {l:List ByteArray} {s:ByteArray},s∈l->∃ k,Xn l s=some k
 | a::l,s,h=>by
  unfold Xn;by_cases e:a=s
  ·exact⟨0,by rw[if_pos e]⟩
  ·obtain⟨k,hk⟩:=Kp (l:=l) (s:=s) ((List.mem_cons.1 h).resolve_left (fun q=>e q.symm));exact⟨k+1,by rw[if_neg e,hk];rfl⟩
theorem Bc(ns:List ByteArray)(s:ByteArray):ns <+: Y9 ns s/\s∈Y9 ns s:=by
 unfold Y9
 split
 ·next h =>
  obtain⟨k,hk⟩:=Option.isSome_iff_exists.1 h;exact⟨List.prefix_refl _,List.mem_of_getElem? (N9 hk)⟩
 ·exact⟨List.prefix_append _ _,by simp⟩
theorem P8:∀ (p ns:List ByteArray),ns <+: Xv ns p/\∀ s∈p,s∈Xv ns p
 | [],ns=>⟨List.prefix_refl _,fun _ h=>by cases h⟩
 | a::p,ns=>by
  obtain⟨h1,h2⟩:=P8 p (Y9 ns a);obtain⟨h3,h4⟩:=Bc ns a;refine⟨h3.trans h1,fun s hs=>?_⟩;rcases List.mem_cons.1 hs with rfl|hs
  ·exact h1.subset h4
  ·exact h2 s hs
theorem M1(ws:List GWord)(i:Nat):∀ k,Z6 ws i <+: Z6 ws (i+k)
 | 0=>List.prefix_refl _
 | k+1=>(M1 ws i k).trans (P8 _ _).1
abbrev Lo(ws:List GWord):List ByteArray:=Z6 ws ws.length
theorem Zf9(ws:List GWord)(i:Nat)(hi:i<ws.length)(j:Nat)(hj:j<ws[i].pos.length):∃ k,(Ud (Z6 ws i) ws[i].pos)[j]? = some (((k:Nat):Int)+1)/\(Lo ws)[k]? = some ws[i].pos[j]:=by
 obtain⟨k,hk⟩:=Kp ((P8 ws[i].pos (Z6 ws i)).2 _ (List.getElem_mem hj));refine⟨k,by simp only[Ud,List.getElem?_map,List.getElem?_eq_getElem hj,Option.map_some,hk,Option.getD_some],?_⟩;have h1:=N9 hk;rw[<- Ot ws i hi]at h1;obtain⟨t,ht⟩:=M1 ws (i+1) (ws.length-(i+1));rw[show i+1+(ws.length-(i+1))=ws.length by omega]at ht;show (Z6 ws ws.length)[k]? = _;rw[<- ht,List.getElem?_append_left (List.getElem?_eq_some_iff.1 h1).1];exact h1
theorem Ih(ws:List GWord):∀ (k i:Nat) (_:i<k) (hi:i<ws.length),k<=ws.length->(Qa ws k)[i]? = some (Ud (Z6 ws i) ws[i].pos)
 | k+1,i,h,hi,hk=>by
  show (Qa ws k++[Ud (Z6 ws k) (ws.getD k default).pos])[i]? = _;rcases Nat.lt_or_ge i k with q|q
  ·rw[List.getElem?_append_left (by rw[Wf];exact q)];exact Ih ws k i q hi (by omega)
  ·have:i=k:=by omega
   subst this;rw[List.getElem?_append_right (by rw[Wf];exact Nat.le_refl _),Wf,Nat.sub_self,List.getD_eq_getElem?_getD,List.getElem?_eq_getElem hi];rfl
theorem Gf{α:Type}{d:Ty α}{T:TypeId}{v:Value}{xs:List α}{F:Nat->Prop}{w:World}(h:(rowD d T v xs).P F w)(i:Nat)(hi:i<xs.length):∃ g c u,v = .slice (some ⟨g,0,none⟩) xs.length c/\w.cell? ⟨g,i,none⟩=some u/\d.R w F xs[i] [u]:=by
 obtain⟨cs,h0,ho,_,h1⟩:=h;obtain⟨g,c,e,hc,_⟩:=Tg ho i (by omega);have hic:i<cs.length:=by omega
 exact⟨g,c,cs[i],e,by rw[hc];exact List.getElem?_eq_getElem hic,d.mono (fun _ _ q=>q.1) (h1 i hi hic)⟩
section
variable{d:Zf}{kd H U:Nat}{w:World}
theorem Zv.pos(h:Zv d kd H U w)(i:Nat)(hi:i<(Zr d).length):∃ P cP Q cQ gl,w.cell? ⟨kd,1,none⟩=some (.slice (some ⟨P,0,none⟩) (Zr d).length cP)/\w.cell? ⟨P,i,none⟩=some (.slice Q (Zr d)[i].pos.length cQ) /\
  w.cell? ⟨kd,2,none⟩=some (.slice (some ⟨gl,0,none⟩) ((Lo (Zr d)).length+1) ((Lo (Zr d)).length+1)) /\
  ∀ j (hj:j<(Zr d)[i].pos.length),∃ b o k,Q=some ⟨b,o,none⟩/\w.cell? ⟨b,o+j,none⟩=some (.int .u16 (((k:Nat):Int)+1))/\k<(Lo (Zr d)).length/\w.cell? ⟨gl,k+1,none⟩=some (.string (Zr d)[i].pos[j]):=by
 obtain⟨mm,cc,mp,gl,g,n,mb,ko,mi,md,mu,vk,v0,v1,v4,v7,v10,v12,v13,u0,u4,h⟩:=h;obtain⟨F0,h0,_⟩:=h.get 0 (by simp[Zp,Zz,Zm]);obtain⟨F,h1,_⟩:=h.get 6 (by simp[Zp,Zz,Zm]);obtain⟨F2,h2,_⟩:=h.get 8 (by simp[Zp,Zz,Zm]);obtain⟨P,cP,u,e,hc,hr⟩:=Gf (xs:=Qa (Zr d) (Zr d).length) h1 i (by rw[Wf];exact hi)
 have hx:(Qa (Zr d) (Zr d).length)[i]'(by rw[Wf];exact hi)=Ud (Z6 (Zr d) i) (Zr d)[i].pos:=by
  have:=Ih (Zr d) (Zr d).length i hi hi (Nat.le_refl _);rw[List.getElem?_eq_getElem (by rw[Wf];exact hi)]at this;exact Option.some.inj this
 rw[hx]at hr;have hl:(Ud (Z6 (Zr d) i) (Zr d)[i].pos).length=(Zr d)[i].pos.length:=by simp[Ud]
 obtain⟨Q,cQ,eu,_,_,hat⟩:=hr;rw[hl]at eu;cases eu;rw[Wf]at e;refine⟨P,cP,Q,cQ,gl,by rw[<- e];exact Zb h0.1 1 _ rfl,hc,Zb h0.1 2 _ rfl,fun j hj=>?_⟩;obtain⟨k,hk1,hk2⟩:=Zf9 (Zr d) i hi j hj;have hkl:=(List.getElem?_eq_some_iff.1 hk2).1;rcases hat.2 with q|⟨b,o,rfl,_,_,hcs⟩
 ·rw[q]at hl;simp at hl;omega
 ·obtain⟨cs,⟨rfl,_⟩,hcc⟩:=hcs j (by omega);have:=hcc 0 (by simp);have e1:o+j*tId.sz+0=o+j:=by show o+j*1+0=_;omega
  rw[e1]at this;refine⟨b,o,k,rfl,?_,hkl,?_⟩
  ·rw[this];rw[List.getElem?_eq_getElem (by omega)]at hk1;show some (Value.int .u16 _)=_;rw[Option.some.inj hk1]
  ·rw[h2.1.cell (Nat.succ_lt_succ hkl)];unfold Dm;rw[if_neg (by omega),show k.succ-1=k by omega,List.getD_eq_getElem?_getD,hk2];rfl
theorem Zv.conts(h:Zv d kd H U w)(i:Nat)(hi:i<(Zr d).length):∃ C cC R cR,w.cell? ⟨kd,4,none⟩=some (.slice (some ⟨C,0,none⟩) (Zr d).length cC)/\w.cell? ⟨C,i,none⟩=some (.slice R (Zr d)[i].contents.length cR)/\strs.R w (fun j=>H<=j/\j<U) (Zr d)[i].contents [.slice R (Zr d)[i].contents.length cR]:=by
 obtain⟨mm,cc,mp,gl,g,n,mb,ko,mi,md,mu,vk,v0,v1,v4,v7,v10,v12,v13,u0,u4,h⟩:=h;obtain⟨F0,h0,_⟩:=h.get 0 (by simp[Zp,Zz,Zm]);obtain⟨F,h1,h2⟩:=h.get 7 (by simp[Zp,Zz,Zm]);obtain⟨C,cC,u,e,hc,hr⟩:=Gf (xs:=(Zr d).map GWord.contents) h1 i (by simpa using hi);rw[List.getElem_map]at hr;rw[List.length_map]at e;obtain⟨R,cR,eu,r1⟩:=id hr;cases eu;exact⟨C,cC,R,cR,by rw[<- e];exact Zb h0.1 4 _ rfl,hc,strs.mono (fun k _ q=>h2 k q) hr⟩
theorem Zv.unkConts(h:Zv d kd H U w)(i:Nat)(hi:i<(Ze d).length):∃ C cC R cR,w.cell? ⟨kd,18,none⟩=some (.slice (some ⟨C,0,none⟩) (Ze d).length cC)/\w.cell? ⟨C,i,none⟩=some (.slice R (Ze d)[i].contents.length cR)/\strs.R w (fun j=>H<=j/\j<U) (Ze d)[i].contents [.slice R (Ze d)[i].contents.length cR]:=by
 obtain⟨mm,cc,mp,gl,g,n,mb,ko,mi,md,mu,vk,v0,v1,v4,v7,v10,v12,v13,u0,u4,h⟩:=h;obtain⟨F0,h0,_⟩:=h.get 0 (by simp[Zp,Zz,Zm]);obtain⟨F,h1,h2⟩:=h.get 19 (by simp[Zp,Zz,Zm]);have hl:=We (d:=d);have ht:((Ze d).take d.unknown.length).map GUnk.contents=(Ze d).map GUnk.contents:=by rw[<- hl,List.take_length]
 have h1':(rowD strs 43 u4 ((Ze d).map GUnk.contents)).P F w:=by rw[<- ht];exact h1
 obtain⟨C,cC,u,e,hc,hr⟩:=Gf (xs:=(Ze d).map GUnk.contents) h1' i (by simpa using hi);rw[List.getElem_map]at hr;rw[List.length_map]at e;obtain⟨R,cR,eu,r1⟩:=id hr;cases eu;exact⟨C,cC,R,cR,by rw[<- e];exact Zb h0.1 18 _ rfl,hc,strs.mono (fun k _ q=>h2 k q) hr⟩
theorem Zv.marks(h:Zv d kd H U w):∃ mm mu,w.cell? ⟨kd,3,none⟩=some (.map (some mm))/\Zx Xr mm (Xi (Zi d.meta0)) w/\w.cell? ⟨kd,17,none⟩=some (.map (some mu))/\Zx Xr mu (Xi (Zi d.unkMeta)) w:=by
 obtain⟨mm,cc,mp,gl,g,n,mb,ko,mi,md,mu,vk,v0,v1,v4,v7,v10,v12,v13,u0,u4,h⟩:=h;obtain⟨F0,h0,_⟩:=h.get 0 (by simp[Zp,Zz,Zm]);obtain⟨F,h1,_⟩:=h.get 1 (by simp[Zp,Zz,Zm]);obtain⟨F2,h2,_⟩:=h.get 18 (by simp[Zp,Zz,Zm]);exact⟨mm,mu,Zb h0.1 3 _ rfl,h1.1,Zb h0.1 17 _ rfl,h2.1⟩
end
end
section
open Go.RowKit DT SS TR LT
def Qr(xs:List ByteArray):ByteArray:=⟨(Lib.join (xs.map (·.data.toList)) [47]).toArray⟩
def wOf(d:Zf)(t:Yn):GWord:=(Zr d).getD t.id.toNat default
def uOf(d:Zf)(t:Yn):GUnk:=(Ze d).getD t.id.toNat default
def rOf(us:List GRec)(t:Yn):GRec:=us.getD t.id.toNat default
def Z5(d:Zf)(us:List GRec)(t:Yn):List ByteArray :=
 if t.cls=1 then (wOf d t).pos++(wOf d t).contents else if t.cls=2 then (uOf d t).contents else if t.cls=3 then [(rOf us t).pos,Qr (rOf us t).tokens,Qr (rOf us t).yomi] else []
structure Vs(d:Zf)(us:List GRec)(t:Yn):Prop where
 cls:t.cls<=3
 known:t.cls=1->∃ i:Nat,t.id=i/\i<(Zr d).length
 unk:t.cls=2->∃ i:Nat,t.id=i/\i<(Ze d).length
 user:t.cls=3->∃ i:Nat,t.id=i/\i<us.length
 num:t.index<=1000000000/\(-1<=t.id/\t.id<=1000000)/\t.pos<=1000000000/\t.start<=1000000000/\t.fin<=1000000000/\t.surf.size<=1000
structure Wm(d:Zf)(us:List GRec)(kd:Nat)(pu:Option Addr)(H U:Nat)(w:World):Prop where
 dict:Zv d kd H U w
 user:us≠[]->∃ ku,pu=some ⟨ku,0,none⟩/\Mr ku us H U w
 nw:(Zr d).length<=1000
 few:(∀ u∈Zr d,u.pos.length<=50/\u.contents.length<=1000/\∀ s∈u.pos,s.size<=2147483647)/\(∀ u∈Ze d,u.contents.length<=1000)/\∀ u∈us,1<=u.tokens.length/\u.tokens.length=u.yomi.length/\total u.tokens<=1048576/\total u.yomi<=1048576
 marks:(∀ m∈Zi d.meta0,0<=m.2/\m.2<=100)/\∀ m∈Zi d.unkMeta,0<=m.2/\m.2<=100
theorem Wm.keep{d:Zf}{us:List GRec}{kd:Nat}{pu:Option Addr}{H U:Nat}{w w':World}{S:Nat->Prop}(h:Wm d us kd pu H U w)(f:Fr S w w')(hS:∀ b,H<=b->b<U->¬ S b):Wm d us kd pu H U w' :=
 ⟨h.dict.keep f hS,fun e=>by obtain⟨ku,a,b⟩:=h.user e;exact⟨ku,a,b.keep f hS⟩,h.nw,h.few,h.marks⟩
theorem Wm.ext{d:Zf}{us:List GRec}{kd:Nat}{pu:Option Addr}{H U:Nat}{w w':World}(h:Wm d us kd pu H U w)(f:Ext w w'):Wm d us kd pu H U w':=h.keep f (fun _ _ _=>id)
abbrev TTok:TypeId:=88
theorem Me(l n:Nat)(hl:l<=n)(hn:n<=2000000)(W:World):(Instr.makeSlice 43 (.int .i64 (l:Int)) (.int .i64 (n:Int))).run Tryz.prog W = .ok (.slice (some ⟨W.heap.size,0,none⟩) l n) (W.alloc (.cells (madeCells #[.string ⟨#[]⟩] n) 9)):=by
 obtain⟨is,his,hs0,hs1,hs2⟩:=info_parts Us;have:=run_make (P:=Tryz.prog) W 43 9 is _ Tryz.underlying43 his hs0 .i64 .i64 l n (by omega) (by omega) (by rw[hs2];omega) (by omega);rw[hs1]at this;simpa [Value.cells] using this
theorem Q5(v:Value)(n:Nat):(madeCells #[v] n).size=n:=by simp[madeCells]
theorem Uw{w:World}{O:Nat->Prop}{xs:List ByteArray}{v:Value}(h:strs.R w O xs [v]):∀ s∈xs,s.size<=9223372036854775807:=by
 intro s hs;obtain⟨A,c,_,_,_,hat⟩:=h;obtain⟨j,hj,rfl⟩:=List.getElem_of_mem hs;obtain⟨_,_,_,_,_,_,q⟩:=Vz hat j hj;exact q
theorem Nx{w:World}{O:Nat->Prop}{xs:List ByteArray}{c:Nat}(h:strs.R w O xs [.slice none xs.length c]):xs=[]:=by
 obtain⟨A,c',e,h1,h2,_⟩:=h;simp only[List.cons.injEq,Value.slice.injEq,and_true]at e;have:=h2 e.1.symm;exact List.eq_nil_of_length_eq_zero (by omega)
theorem Ny{w:World}{O:Nat->Prop}{xs:List ByteArray}{c:Nat}(h:strs.R w O xs [.slice none xs.length c]):c=0:=by
 obtain⟨A,c',e,h1,h2,_⟩:=h;simp only[List.cons.injEq,Value.slice.injEq,and_true]at e;have:=h2 e.1.symm;omega
theorem X7{w:World}{O:Nat->Prop}{xs:List ByteArray}{A:Option Addr}{c:Nat}(h:strs.R w O xs [.slice A xs.length c])(hne:xs≠[]):∃ b o,A=some ⟨b,o,none⟩/\b<w.heap.size/\∀ j u,(xs.map Value.string)[j]? = some u->w.cell? ((⟨b,o,none⟩:Addr).add j)=some u:=by
 obtain⟨A',c',e,_,_,hat⟩:=h;cases e;have h0:0<xs.length:=List.length_pos_iff.2 hne;obtain⟨b,o,e,_,hb,_,_⟩:=Vz hat 0 h0;refine⟨b,o,e,hb,fun j u hu=>?_⟩;have hj:j<xs.length:=by simpa using (List.getElem?_eq_some_iff.1 hu).1
 obtain⟨b',o',e',_,_,hc,_⟩:=Vz hat j hj;rw[e]at e';cases e';rw[List.getElem?_map,List.getElem?_eq_getElem hj]at hu;rw[Addr.add_lit,hc];exact hu
theorem Lg{P:Program}{w:World}{ops:Array Oper}{rest:List Oper}{o:Oper}{a:Act}{Q:Exit->Act->World->Prop}(hg:o.guard=none)(s x:Operand)(t:TypeId)(hop:o.op=Op.call { callee:=Callee.builtin Builtin.append,args:=#[s,x],argTypes:=#[t,t] })
  (base:Nat) (e:TypeId) (i:TypeInfo) (size:Nat) (h1:P.underlying t=some (.slice e)) (h2:P.info? e=some i) (v:Value) (n:Nat) (xs:List Value) (hs:a.eval s=v) (hown:w.ownsRow base e size v n xs) (hx:a.eval x = .slice none 0 0)
  (hK:wpList P ops Q rest (a.put o.dst v) w):wpList P ops Q (o::rest) a w:=by
 have hr:=run_append_owned_none (P:=P) (w:=w) base t o.type e i size h1 h2 v n xs hown;refine wpList_plain hg fun K hK'=>?_
 unfold Oper.wp execOp;simp only[hop,resolve,invoke,builtin,Sem.run_bind,Sem.run_pure,Result.andThen_ok,List.map_toArray,List.map_cons,List.map_nil,hs,hx,hr];exact hK' _ _ hK
abbrev Zn(kd:Nat)(pu:Option Addr)(t:Yn):Obj:=.cells (Z9 kd pu t).toArray TTok
theorem Za1(kd:Nat)(pu:Option Addr)(t:Yn)(w:World):(w.alloc (Zn kd pu t)).cell? ⟨w.heap.size,1,none⟩=some (.int .i64 t.id)/\(w.alloc (Zn kd pu t)).cell? ⟨w.heap.size,2,none⟩=some (.int .i64 t.cls)/\(w.alloc (Zn kd pu t)).cell? ⟨w.heap.size,7,none⟩=some (.pointer (some ⟨kd,0,none⟩))/\(w.alloc (Zn kd pu t)).cell? ⟨w.heap.size,8,none⟩=some (.pointer pu) :=
 have h:=alloc_at w (Zn kd pu t)
 ⟨cell_of h 1 _ rfl,cell_of h 2 _ rfl,cell_of h 7 _ rfl,cell_of h 8 _ rfl⟩
def KnF(x:GWord)(i kd rb nw nl P cP cQ gl C cC cR:Nat)(Q R:Option Addr)(W:World):Prop :=
 W.cell? ⟨kd,1,none⟩=some (.slice (some ⟨P,0,none⟩) nw cP)/\W.cell? ⟨P,i,none⟩=some (.slice Q x.pos.length cQ)/\W.cell? ⟨kd,2,none⟩=some (.slice (some ⟨gl,0,none⟩) (nl+1) (nl+1))/\W.cell? ⟨kd,4,none⟩=some (.slice (some ⟨C,0,none⟩) nw cC)/\W.cell? ⟨C,i,none⟩=some (.slice R x.contents.length cR) /\
 W.cell? ⟨rb,1,none⟩=some (.int .i64 (i:Int))/\W.cell? ⟨rb,2,none⟩=some (.int .i64 ((1:Nat):Int))/\W.cell? ⟨rb,7,none⟩=some (.pointer (some ⟨kd,0,none⟩))/\rb<W.heap.size/\kd<W.heap.size
theorem KnF.ext{x:GWord}{i kd rb nw nl P cP cQ gl C cC cR:Nat}{Q R:Option Addr}{W W':World}(h:KnF x i kd rb nw nl P cP cQ gl C cC cR Q R W)(f:Ext W W'):KnF x i kd rb nw nl P cP cQ gl C cC cR Q R W':=by
 obtain⟨p1,p2,p3,c1,c2,b1,b2,b7,lb,lk⟩:=h;exact⟨f.cell p1 id,f.cell p2 id,f.cell p3 id,f.cell c1 id,f.cell c2 id,f.cell b1 id,f.cell b2 id,f.cell b7 id,Nat.lt_of_lt_of_le lb f.size,Nat.lt_of_lt_of_le lk f.size⟩
def PosF(x:GWord)(nl gl:Nat)(Q:Option Addr)(w:World):Prop:=∀ j (hj:j<x.pos.length),∃ b o k,Q=some ⟨b,o,none⟩/\w.cell? ⟨b,o+j,none⟩=some (.int .u16 (((k:Nat):Int)+1))/\k<nl/\w.cell? ⟨gl,k+1,none⟩=some (.string x.pos[j])
theorem Zae{d:Zf}{us:List GRec}{kd H U:Nat}{pu:Option Addr}{w:World}(hD:Wm d us kd pu H U w)(t:Yn)(i:Nat)(hid:t.id=i)(hc:t.cls=1)(hi:i<(Zr d).length) :
  ∃ nw nl P cP Q cQ gl C cC R cR,i<nw/\KnF (Zr d)[i] i kd w.heap.size nw nl P cP cQ gl C cC cR Q R (w.alloc (Zn kd pu t))/\PosF (Zr d)[i] nl gl Q w/\strs.R w (fun j=>H<=j/\j<U) (Zr d)[i].contents [.slice R (Zr d)[i].contents.length cR] /\
   ((Zr d)[i].pos.length<=50/\(Zr d)[i].contents.length<=1000/\∀ s∈(Zr d)[i].pos,s.size<=2147483647)/\nl<=50000:=by
 obtain⟨P,cP,Q,cQ,gl,p1,p2,p3,p4⟩:=hD.dict.pos i hi;obtain⟨C,cC,R,cR,c1,c2,c3⟩:=hD.dict.conts i hi;obtain⟨b1,b2,b7,_⟩:=Za1 kd pu t w;rw[hid]at b1;rw[hc]at b2;have X:Ext w (w.alloc (Zn kd pu t)):=(Fr.refl _ w).alloc _;exact⟨_,_,P,cP,Q,cQ,gl,C,cC,R,cR,hi,⟨X.cell p1 id,X.cell p2 id,X.cell p3 id,X.cell c1 id,X.cell c2 id,b1,b2,b7,lt_of_cell b1,Nat.lt_of_lt_of_le (lt_of_cell p1) X.size⟩,p4,c3,hD.few.1 _ (List.getElem_mem hi),Nat.le_trans (Qo _ (fun u hu=>(hD.few.1 u hu).1) _ (Nat.le_refl _)) (by have:=hD.nw;omega)⟩
theorem Zan(d:Zf)(us:List GRec)(t:Yn)(i:Nat)(hid:t.id=i)(hc:t.cls=1)(hi:i<(Zr d).length)(kd H U:Nat)(pu:Option Addr)(w:World)(hD:Wm d us kd pu H U w) :
  Calls Tryz.prog 38 #[.agg (Z9 kd pu t).toArray] w fun e w'=>∃ v,e = .returned v/\strs.R w' (fun j=>w.heap.size<=j) ((Zr d)[i].pos++(Zr d)[i].contents) [v]/\Ext w w':=by
 have mixed:Tryz.prog.follows .mixedOrders=true:=by kernel_rfl
 obtain⟨nw,nl,P,cP,Q,cQ,gl,C,cC,R,cR,hiw,K0,hP,hC,hfew,_⟩:=Zae hD t i hid hc hi;generalize (Zr d)[i]=x at *;clear hD hi;obtain⟨idx,id,cls,pos,st,fi,sf⟩:=t;simp only at hid hc;subst hid hc;obtain⟨rb,hrb⟩:∃ rb,rb=w.heap.size:=⟨_,rfl⟩;have X0:Ext w (w.alloc (Zn kd pu ⟨idx,i,1,pos,st,fi,sf⟩)):=(Fr.refl _ _).alloc _;rw[<- hrb]at K0;go_enter Tryz.func38,Tryz.ntmps38
 go_upto_region 1 with fail
 have HP:=Lib.hid hP;have HC:=Lib.hid hC;have HX:=Lib.hid X0;rw[<- hrb];have HRB:=Lib.hid hrb;clear hP hC hrb X0;generalize w.alloc _=W at *;obtain⟨p1,p2,p3,c1,c2,b1,b2,b7,lb,lk⟩:=id K0;have HF:Hid (∀ W',Ext W W'->KnF x i kd rb nw nl P cP cQ gl C cC cR Q R W'):=fun W' f=>K0.ext f
 clear K0;have hiz:(i:Int)<(nw:Int):=by omega
 have hi0:(0:Int)<=(i:Int):=by omega
 go_upto_region 5 with fail
 go_quiet (fail)
 clear p1 p2 p3 c1 c2 b1 b2 b7 lb lk;have hsum:IntKind.i64.wrap ((x.pos.length:Int)+(x.contents.length:Int))=(x.pos.length:Int)+(x.contents.length:Int):=by rw[IntKind.wrap_i64];omega
 have hmk:∀ W:World,(Instr.makeSlice 43 (.int .i64 0) (.int .i64 ((x.pos.length:Int)+(x.contents.length:Int)))).run Tryz.prog W = .ok (.slice (some ⟨W.heap.size,0,none⟩) 0 (x.pos.length+x.contents.length)) (W.alloc (.cells (madeCells #[.string ⟨#[]⟩] (x.pos.length+x.contents.length)) 9)):=fun W=>by
  have:=Me 0 (x.pos.length+x.contents.length) (by omega) (by omega) W;simpa using this
 have F1:Ext W (W.drewN nq):=(Fr.refl _ W).drewN nq;obtain⟨p1,p2,p3,c1,c2,b1,b2,b7,lb,lk⟩:=HF.out _ F1;have HF1:=Lib.hid F1;clear F1;generalize W.drewN nq=W1 at *;go_upto_region 6 with fail
 go_still_tail 13,(by kernel_rfl)
 change wpList _ _ _ _ _ W1.drew;go_wp2_with fail
 obtain⟨N,hN⟩:∃ N,N=W1.heap.size:=⟨_,rfl⟩;rw[<- hN];have F2:Ext W (W1.alloc (.cells (madeCells #[.string ⟨#[]⟩] (x.pos.length+x.contents.length)) 9)).drew:=(HF1.out.alloc _).drew;have K2:(W1.alloc (.cells (madeCells #[.string ⟨#[]⟩] (x.pos.length+x.contents.length)) 9)).drew.heap[N]? = some (.cells (madeCells #[.string ⟨#[]⟩] (x.pos.length+x.contents.length)) 9 (0,0)):=alloc_at' _ _ hN;have hNw:w.heap.size<=N:=by rw[hN];exact (HX.out.trans HF1.out (fun _ _ e=>e)).size
 obtain⟨p1,p2,p3,c1,c2,b1,b2,b7,lb,lk⟩:=HF.out _ F2;have hNW:W.heap.size<=N:=by have:=HF1.out.size;omega
 clear hN hsum hmk;generalize (W1.alloc _).drew=W2 at *;go_quiet (fail)
 have F3:Ext W (W2.drewN nq):=F2.drewN nq;have K3:(W2.drewN nq).heap[N]? = some (.cells (madeCells #[.string ⟨#[]⟩] (x.pos.length+x.contents.length)) 9 (0,0)):=K2;have HF3:=Lib.hid (And.intro F3 K3);clear F2 K2 F3 K3 p1 p2 p3 c1 c2 b1 b2 b7 lb lk;generalize W2.drewN nq=W3 at *;obtain⟨np,hnp⟩:∃ n,n=x.pos.length:=⟨_,rfl⟩;have HNP:=Lib.hid hnp;rw[<- hnp];clear hnp;go_wp2_with fail
 have hnp:np<=50:=by rw[HNP.out];exact hfew.1
 have hcl:=hfew.2.1;have HSZ:=Lib.hid hfew.2.2;clear hfew
 go_loopg [4,56] np (fun g1 v4 v56 wr=>∃ (j:Nat) (u:Value),v4=u/\v56 = .int .i64 (j:Int)/\j<=np/\np<=j+g1/\Hid (RowK Ty.str 9 u (x.pos.take j) N wr/\Ext W wr)/\N<=wr.heap.size)
 case atStart=>exact⟨0,_,rfl,rfl,by omega,by omega,⟨Zbq rfl HF3.out.2 (by rw[Q5];have:=HNP.out;omega) (by omega) (Nat.le_refl _),HF3.out.1⟩,Nat.le_of_lt (Array.getElem?_eq_some_iff.1 HF3.out.2).1⟩
 case round =>
  obtain⟨j,u,rfl,rfl,hj,hg,HR,hNr⟩:=hrel;have HL:=Lib.hid HR.out.1.low;obtain⟨p1,p2,p3,c1,c2,b1,b2,b7,lb,lk⟩:=HF.out _ HR.out.2;by_cases hlt:j<np
  ·have hlz:(j:Int)<(np:Int):=by omega
   have hz0:(0:Int)<=(j:Int):=by omega
   obtain⟨b,o,k,rfl,hq,hk,hn⟩:=HP.out j (by rw[<- HNP.out];exact hlt);have XW:=HX.out.trans HR.out.2 (fun _ _ e=>e);have hq:=XW.cell hq id;have hn:=XW.cell hn id;have hk1:(0:Int)<=(k:Int)+1:=by omega
   have hk2:(k:Int)+1<(nl:Int)+1:=by omega
   have hk3:((k:Int)+1).toNat=k+1:=by omega
   have HT:Hid (x.pos.take (j+1)=x.pos.take j++[x.pos[j]'(by rw[<- HNP.out];exact hlt)]):=List.take_succ_eq_append_getElem (by rw[<- HNP.out];exact hlt);have HLQ:=Lib.hid XW.size;have hsz:=HSZ.out _ (List.getElem_mem (show j<x.pos.length by rw[<- HNP.out];exact hlt));generalize x.pos[j]'(by rw[<- HNP.out];exact hlt)=s at *;clear XW
   go_wp2_with (first
    | (at_builtin;refine RowK.lst (v:=u4) rfl _ _ 43 rfl s [.string s] 16 ⟨wr.heap.size,0,none⟩ Tryz.underlying43 O7 (by decide) (by omega) rfl rfl (HR.out.1.ext ((Fr.refl _ wr).alloc _)) (by rw[List.length_take];omega) (by simp;omega) (Z4 _ _) ⟨rfl,by omega⟩ ?_;intro v' w6 hR6 hf6 ha6;have H6:=Lib.hid (And.intro hR6 hf6);clear hR6 hf6 ha6)
    | fail)
   go_roundg (np-(j+1))
   case measure=>omega
   case rel=>exact⟨j+1,v',rfl,by go_num,by omega,by omega,⟨by rw[HT.out];exact H6.out.1,(HR.out.2.alloc _).trans H6.out.2 (fun k hk e=>by have:=(HL.out k e).1;omega)⟩,by have:=H6.out.2.size;rw[Za]at this;omega⟩
  ·obtain rfl:j=np:=by omega
   have hown:=HR.out.1.texts;have hjl:j=x.pos.length:=HNP.out;rw[hjl,List.take_length]at hown;have HO:=Lib.hid hown;have HR2:=Lib.hid HR.out.2;have HCW:=Lib.hid (strs.ext HC.out (HX.out.trans HR.out.2 (fun _ _ e=>e)));clear hown HR HNP;go_upto_region 13 with fail
   go_still_tail 10,(by kernel_rfl)
   change wpList _ _ _ _ _ wr.drew;obtain⟨is,his,hs0,hs1,hs2⟩:=info_parts Us;have HE:Hid ((x.pos++x.contents).map Value.string=x.pos.map Value.string++x.contents.map Value.string):=List.map_append
   have HSS:Hid (∀ s∈x.pos++x.contents,s.size<=9223372036854775807):=fun s hs=>by
    rcases List.mem_append.1 hs with q|q
    ·have:=HSZ.out s q;omega
    ·exact Uw HCW.out s q
   have hnw:w.heap.size<=wr.heap.size:=by omega
   cases R with
   | none =>
    have HC0:Hid (x.contents=[]):=Nx HCW.out;obtain rfl:cR=0:=Ny HCW.out
    go_wp2_with (first
     | (at_builtin;refine Lg rfl _ _ 43 rfl N 9 is 1 Tryz.underlying43 his u4 _ _ rfl HO.out (by show Value.slice none x.contents.length 0=_;rw[HC0.out];rfl) ?_)
     | fail)
    first|go_ret|go_ret2
    refine⟨_,rfl,?_,(HX.out.trans HR2.out (fun _ _ e=>e)).drew⟩;have:=Vh (xs:=x.pos) (B:=N) (w:=wr.drew) (v:=u4) (show World.ownsRow wr.drew N _ 1 u4 x.pos.length _ from HO.out) (fun s hs=>HSS.out s (by simp[hs]));rw[HC0.out,List.append_nil];exact strs.mono (fun k _ q=>by omega) this
   | some ra =>
    obtain⟨ab,ao,ak⟩:=ra
    have hcl2:∀ j v,(x.contents.map Value.string)[j]? = some v->wr.drew.cell? (Addr.add ⟨ab,ao,ak⟩ j)=some v:=fun j v hv=>by
     have hne:x.contents≠[]:=fun e=>by rw[e]at hv;simp at hv
     obtain⟨b,o,e,_,hcc⟩:=X7 HCW.out hne;cases e;exact hcc j v hv
    go_wp2_with (first
     | (at_builtin;refine wpList_append_own_at _ rfl _ _ 43 rfl N 9 is _ 1 16 Tryz.underlying43 his hs0 hs1 hs2 rfl (by decide) u4 x.pos.length _ rfl HO.out ⟨ab,ao,ak⟩ x.contents.length cR (x.contents.map Value.string) rfl (by simp) hcl2 (by intro y hy;obtain⟨z,_,rfl⟩:=List.mem_map.1 hy;rfl) (by unfold maxLen;omega) (by omega) hNr ?_;intro v' w7 hown' hgrow hnil' hat;have H7:=Lib.hid (And.intro hown' hgrow);clear hown' hgrow hnil' hat)
     | fail)
    first|go_ret|go_ret2
    have F7:Fr (fun k=>u4.ownBlock=some k) wr.drew w7:=(Fr.refl _ _).grown H7.out.2 (fun k e _=>e);refine⟨_,rfl,?_,((HX.out.trans HR2.out (fun _ _ e=>e)).drew).trans F7 (fun k hk e=>by have:=(HL.out k e).1;omega)⟩;have h7:=H7.out.1;rw[<- HE.out,show x.pos.length+x.contents.length=(x.pos++x.contents).length from List.length_append.symm]at h7;exact strs.mono (fun k _ q=>by omega) (Vh h7 HSS.out)
end
section
open Go.RowKit DT SS TR LT
def UnF(x:GUnk)(i kd rb nw C cC cR:Nat)(R:Option Addr)(W:World):Prop :=
 W.cell? ⟨kd,18,none⟩=some (.slice (some ⟨C,0,none⟩) nw cC)/\W.cell? ⟨C,i,none⟩=some (.slice R x.contents.length cR) /\
 W.cell? ⟨rb,1,none⟩=some (.int .i64 (i:Int))/\W.cell? ⟨rb,2,none⟩=some (.int .i64 ((2:Nat):Int))/\W.cell? ⟨rb,7,none⟩=some (.pointer (some ⟨kd,0,none⟩))/\rb<W.heap.size/\kd<W.heap.size
theorem UnF.ext{x:GUnk}{i kd rb nw C cC cR:Nat}{R:Option Addr}{W W':World}(h:UnF x i kd rb nw C cC cR R W)(f:Ext W W'):UnF x i kd rb nw C cC cR R W':=by
 obtain⟨c1,c2,b1,b2,b7,lb,lk⟩:=h;exact⟨f.cell c1 id,f.cell c2 id,f.cell b1 id,f.cell b2 id,f.cell b7 id,Nat.lt_of_lt_of_le lb f.size,Nat.lt_of_lt_of_le lk f.size⟩
theorem Bp{d:Zf}{us:List GRec}{kd H U:Nat}{pu:Option Addr}{w:World}(hD:Wm d us kd pu H U w)(t:Yn)(i:Nat)(hid:t.id=i)(hc:t.cls=2)(hi:i<(Ze d).length) :
  ∃ nw C cC R cR,i<nw/\UnF (Ze d)[i] i kd w.heap.size nw C cC cR R (w.alloc (Zn kd pu t))/\strs.R w (fun j=>H<=j/\j<U) (Ze d)[i].contents [.slice R (Ze d)[i].contents.length cR]/\(Ze d)[i].contents.length<=1000:=by
 obtain⟨C,cC,R,cR,c1,c2,c3⟩:=hD.dict.unkConts i hi;obtain⟨b1,b2,b7,_⟩:=Za1 kd pu t w;rw[hid]at b1;rw[hc]at b2;have X:Ext w (w.alloc (Zn kd pu t)):=(Fr.refl _ w).alloc _;exact⟨_,C,cC,R,cR,hi,⟨X.cell c1 id,X.cell c2 id,b1,b2,b7,lt_of_cell b1,Nat.lt_of_lt_of_le (lt_of_cell c1) X.size⟩,c3,hD.few.2.1 _ (List.getElem_mem hi)⟩
theorem Tw{w:World}{g:Nat}{xs:List ByteArray}{n:Nat}(h:w.heap[g]? = some (.cells (xs.map Value.string).toArray 9 (0,0)))(hn:n=xs.length)(hs:∀ s∈xs,s.size<=9223372036854775807)(hl:n<=2000000):strs.R w (fun j=>g<=j) xs [.slice (some ⟨g,0,none⟩) n n]:=by
 subst hn;exact Vh (B:=g) ⟨by simp,.inr ⟨g,xs.length,_,rfl,Nat.le_refl _,h,Nat.le_refl _,by unfold maxLen;omega,by simp,by simp[List.take_of_length_le]⟩⟩ hs
theorem Pt{α:Type}(cur cs:List α)(h:cur.length=cs.length):splice cur 0 cs=cs:=by
 unfold splice;simp[h]
theorem Zgq(d:Zf)(us:List GRec)(t:Yn)(i:Nat)(hid:t.id=i)(hc:t.cls=2)(hi:i<(Ze d).length)(kd H U:Nat)(pu:Option Addr)(w:World)(hD:Wm d us kd pu H U w) :
  Calls Tryz.prog 38 #[.agg (Z9 kd pu t).toArray] w fun e w'=>∃ v,e = .returned v/\strs.R w' (fun j=>w.heap.size<=j) (Ze d)[i].contents [v]/\Ext w w':=by
 have mixed:Tryz.prog.follows .mixedOrders=true:=by kernel_rfl
 obtain⟨nw,C,cC,R,cR,hiw,K0,hC,hcl⟩:=Bp hD t i hid hc hi;generalize (Ze d)[i]=x at *;clear hD hi;obtain⟨idx,id,cls,pos,st,fi,sf⟩:=t;simp only at hid hc;subst hid hc;obtain⟨rb,hrb⟩:∃ rb,rb=w.heap.size:=⟨_,rfl⟩;have X0:Ext w (w.alloc (Zn kd pu ⟨idx,i,2,pos,st,fi,sf⟩)):=(Fr.refl _ _).alloc _;rw[<- hrb]at K0;go_enter Tryz.func38,Tryz.ntmps38
 go_upto_region 1 with fail
 have HC:=Lib.hid (strs.ext hC X0);have HX:=Lib.hid X0;rw[<- hrb];clear hC hrb X0;generalize w.alloc _=W at *;obtain⟨c1,c2,b1,b2,b7,lb,lk⟩:=id K0;have HF:Hid (∀ W',Ext W W'->UnF x i kd rb nw C cC cR R W'):=fun W' f=>K0.ext f
 clear K0;have hiz:(i:Int)<(nw:Int):=by omega
 have hi0:(0:Int)<=(i:Int):=by omega
 have hmk:∀ W:World,(Instr.makeSlice 43 (.int .i64 (x.contents.length:Int)) (.int .i64 (x.contents.length:Int))).run Tryz.prog W = .ok (.slice (some ⟨W.heap.size,0,none⟩) x.contents.length x.contents.length) (W.alloc (.cells (madeCells #[.string ⟨#[]⟩] x.contents.length) 9)):=fun W=>Me x.contents.length x.contents.length (Nat.le_refl _) (by omega) W
 go_upto_region 16 with fail
 go_still_tail 11,(by kernel_rfl)
 change wpList _ _ _ _ _ W.drew;go_wp2_with fail
 obtain⟨N,hN⟩:∃ N,N=W.heap.size:=⟨_,rfl⟩;rw[<- hN];have F2:Ext W (W.alloc (.cells (madeCells #[.string ⟨#[]⟩] x.contents.length) 9)).drew:=((Fr.refl _ W).alloc _).drew;have K2:(W.alloc (.cells (madeCells #[.string ⟨#[]⟩] x.contents.length) 9)).drew.heap[N]? = some (.cells (madeCells #[.string ⟨#[]⟩] x.contents.length) 9 (0,0)):=alloc_at' _ _ hN;have hNw:w.heap.size<=N:=by rw[hN];exact HX.out.size
 have HNW:=Lib.hid hN;clear hN hmk c1 c2 b1 b2 b7 lb lk;obtain⟨c1,c2,b1,b2,b7,lb,lk⟩:=HF.out _ F2;have HK2:=Lib.hid (And.intro F2 (And.intro K2 (strs.ext HC.out F2)));clear F2 K2;generalize (W.alloc _).drew=W2 at *
 go_still_tail 11,(by kernel_rfl)
 change wpList _ _ _ _ _ W2.drew
 have hsp:(0:Nat)<((x.contents.map Value.string)).length->some (⟨N,0,none⟩:Addr)=some ⟨N,0,none⟩/\∃ ad,R=some ad/\∀ j v,(x.contents.map Value.string)[j]? = some v->W2.drew.cell? (ad.add j)=some v:=fun h0=>by
  obtain⟨b,o,e,_,hcc⟩:=X7 HK2.out.2.2 (fun e=>by rw[e]at h0;simp at h0);exact⟨rfl,_,e,hcc⟩
 refine wpList_copy_splice rfl _ _ 43 43 rfl 9 Tryz.underlying43 (by kernel_rfl) (some ⟨N,0,none⟩) R x.contents.length x.contents.length x.contents.length cR rfl rfl N 0 (madeCells #[.string ⟨#[]⟩] x.contents.length).toList 9 HK2.out.2.1 (x.contents.map Value.string) (by simp) hsp (by rw[List.length_map];have:=Q5 (.string ⟨#[]⟩) x.contents.length;simp[madeCells]) (by intro y hy;obtain⟨z,_,rfl⟩:=List.mem_map.1 hy;rfl) N W2.drew (Below.refl _ _) (Nat.le_refl _) ?_;intro w7 h7 hb7;rw[Pt _ _ (by simp[madeCells])]at h7;clear hsp c1 c2 b1 b2 b7 lb lk HF hiz hi0;have HX2:=Lib.hid (show Ext w w7 from Fr.of_below (((Fr.below HX.out).trans ((Fr.below HK2.out.1).mono HX.out.size)).drew.trans (hb7.mono hNw)));have HE:=Lib.hid (strs.mono (O':=fun j=>w.heap.size<=j) (fun j _ hj=>Nat.le_trans hNw hj) (Tw h7.out rfl (fun s hs=>Uw HK2.out.2.2 s hs) (by omega)));clear HK2 HC HX h7 hb7;rw[List.length_map];go_wp2_with fail
 first|go_ret|go_ret2
 exact⟨_,rfl,HE.out,HX2.out⟩
end
section
open Go.RowKit DT SS TR LT
theorem Z0{a b c:World}(f:Ext a b)(g:Ext b c):Ext a c:=f.trans g (fun _ _ e=>e)
def UsF(x:GRec)(i ku rb n C oC cC ca cb:Nat)(A B:Option Addr)(W:World):Prop :=
 W.cell? ⟨ku,2,none⟩=some (.slice (some ⟨C,oC,none⟩) n cC)/\W.cell? ⟨C,oC+i*3,none⟩=some (.slice A x.tokens.length ca)/\W.cell? ⟨C,oC+i*3+1,none⟩=some (.slice B x.yomi.length cb)/\W.cell? ⟨C,oC+i*3+2,none⟩=some (.string x.pos) /\
 W.cell? ⟨rb,1,none⟩=some (.int .i64 (i:Int))/\W.cell? ⟨rb,2,none⟩=some (.int .i64 ((3:Nat):Int))/\W.cell? ⟨rb,8,none⟩=some (.pointer (some ⟨ku,0,none⟩))/\rb<W.heap.size/\ku<W.heap.size
theorem UsF.ext{x:GRec}{i ku rb n C oC cC ca cb:Nat}{A B:Option Addr}{W W':World}(h:UsF x i ku rb n C oC cC ca cb A B W)(f:Ext W W'):UsF x i ku rb n C oC cC ca cb A B W':=by
 obtain⟨c1,c2,c3,c4,b1,b2,b8,lb,lk⟩:=h;exact⟨f.cell c1 id,f.cell c2 id,f.cell c3 id,f.cell c4 id,f.cell b1 id,f.cell b2 id,f.cell b8 id,Nat.lt_of_lt_of_le lb f.size,Nat.lt_of_lt_of_le lk f.size⟩
theorem Hl{d:Zf}{us:List GRec}{kd H U:Nat}{pu:Option Addr}{w:World}(hD:Wm d us kd pu H U w)(t:Yn)(i:Nat)(hid:t.id=i)(hc:t.cls=3)(hi:i<us.length) :
  ∃ ku n C oC cC ca cb A B,pu=some ⟨ku,0,none⟩/\i<n/\UsF us[i] i ku w.heap.size n C oC cC ca cb A B (w.alloc (Zn kd pu t))/\strs.R w (fun j=>H<=j/\j<U) us[i].tokens [.slice A us[i].tokens.length ca]/\strs.R w (fun j=>H<=j/\j<U) us[i].yomi [.slice B us[i].yomi.length cb] /\
   (1<=us[i].tokens.length/\us[i].tokens.length=us[i].yomi.length/\total us[i].tokens<=1048576/\total us[i].yomi<=1048576)/\us[i].pos.size<=9223372036854775807:=by
 obtain⟨ku,hp,h0,v,h1,A,c,hv,h2,h3,h4,h5⟩:=hD.user (fun e=>by rw[e]at hi;simp at hi);cases hv;rcases h5 with rfl|⟨C,oC,rfl,_,_,hcc⟩
 ·simp at hi
 obtain⟨cs,hcs,hat⟩:=hcc i hi;obtain⟨c0,c1',rfl,hA,c2',c3',rfl,hB,hS⟩:=hcs;obtain⟨vA,rfl⟩:=J9 hA;obtain⟨vB,rfl⟩:=J9 hB;obtain⟨rfl,hsz⟩:=hS;obtain⟨A',ca,rfl⟩:=Xz hA;obtain⟨B',cb,rfl⟩:=Xz hB;have e0:=hat 0 (by simp);have e1:=hat 1 (by simp);have e2:=hat 2 (by simp);obtain⟨b1,b2,_,b8⟩:=Za1 kd pu t w;rw[hid]at b1;rw[hc]at b2;rw[hp]at b8;have X:Ext w (w.alloc (Zn kd pu t)):=(Fr.refl _ w).alloc _;subst hp;exact⟨ku,_,C,oC,c,ca,cb,A',B',rfl,hi,⟨X.cell h1 id,X.cell e0 id,X.cell e1 id,X.cell e2 id,b1,b2,b8,lt_of_cell b1,Nat.lt_of_lt_of_le (lt_of_cell h1) X.size⟩,hA,hB,hD.few.2.2 _ (List.getElem_mem hi),hsz⟩
theorem Zbu:∀ (xs:List ByteArray) (sep:List UInt8),sep.length<=1->(Lib.join (xs.map (·.data.toList)) sep).length<=total xs:=by
 intro xs
 induction xs with
 | nil=>intro sep _;simp[Lib.join,total]
 | cons a l ih =>
  intro sep hs;have:=ih sep hs
  cases l with
  | nil=>simp[Lib.join,List.intercalate,total]
  | cons b m =>
   simp only[Lib.join,List.intercalate,List.map_cons,List.intersperse,List.flatten_cons,List.length_append,total,List.sum_cons]at this⊢;have e:a.data.toList.length=a.size:=by simp
   omega
theorem Kv(xs:List ByteArray):(Qr xs).size<=total xs:=by
 have:=Zbu xs [47] (by decide);simpa [Qr,ByteArray.size] using this
theorem Nw(xs:List ByteArray):xs.length<=total xs:=by
 induction xs with
 | nil=>simp
 | cons a l ih=>unfold total at *;simp only[List.length_cons,List.map_cons,List.sum_cons];omega
theorem Q7{O:Nat->Prop}(xs:List ByteArray)(A:Option Addr)(c:Nat)(w:World)(h:strs.R w O xs [.slice A xs.length c])(h1:1<=xs.length)(ht:total xs<=1048576) :
  Calls Tryz.prog 80 #[.slice A xs.length c,.string ⟨#[47]⟩] w fun e w'=>e = .returned (.string (Qr xs))/\Ext w w':=by
 obtain⟨b,o,rfl,hb,hcc⟩:=X7 h (fun e=>by rw[e]at h1;simp at h1);obtain⟨_,_,e,hcap,_⟩:=h;cases e;have ht':=Nw xs;refine Zf5 b o c xs ⟨#[47]⟩ w (fun j x hj=>?_) hb (by omega) hcap (Nat.le_trans (Zbu xs _ (by decide)) (by omega));have:=hcc j (.string x) (by rw[List.getElem?_map,hj];rfl);rwa[Addr.add_lit]at this
theorem Zdv(d:Zf)(us:List GRec)(t:Yn)(i:Nat)(hid:t.id=i)(hc:t.cls=3)(hi:i<us.length)(kd H U:Nat)(pu:Option Addr)(w:World)(hD:Wm d us kd pu H U w) :
  Calls Tryz.prog 38 #[.agg (Z9 kd pu t).toArray] w fun e w'=>∃ v,e = .returned v/\strs.R w' (fun j=>w.heap.size<=j) [us[i].pos,Qr us[i].tokens,Qr us[i].yomi] [v]/\Ext w w':=by
 have mixed:Tryz.prog.follows .mixedOrders=true:=by kernel_rfl
 obtain⟨ku,n,C,oC,cC,ca,cb,A,B,rfl,hin,K0,hA,hB,hfew,hps⟩:=Hl hD t i hid hc hi;generalize us[i]=x at *;clear hD hi;obtain⟨idx,id,cls,pos,st,fi,sf⟩:=t;simp only at hid hc;subst hid hc;obtain⟨rb,hrb⟩:∃ rb,rb=w.heap.size:=⟨_,rfl⟩;have X0:Ext w (w.alloc (Zn kd (some ⟨ku,0,none⟩) ⟨idx,i,3,pos,st,fi,sf⟩)):=(Fr.refl _ _).alloc _;rw[<- hrb]at K0;go_enter Tryz.func38,Tryz.ntmps38
 go_upto_region 1 with fail
 have HAB:=Lib.hid (And.intro (strs.ext hA X0) (strs.ext hB X0));have HX:=Lib.hid X0;rw[<- hrb];clear hA hB hrb X0;generalize w.alloc _=W at *;obtain⟨c1,c2,c3,c4,b1,b2,b8,lb,lk⟩:=id K0;have HF:Hid (∀ W',Ext W W'->UsF x i ku rb n C oC cC ca cb A B W'):=fun W' f=>K0.ext f
 clear K0;have HFW:=Lib.hid hfew;clear hfew;have hiz:(i:Int)<(n:Int):=by omega
 have hi0:(0:Int)<=(i:Int):=by omega
 go_upto_region 20 with fail
 go_quiet (fail)
 have F1:Ext W (W.drewN nq):=(Fr.refl _ W).drewN nq;clear c1 c2 c3 c4 b1 b2 b8 lb lk;obtain⟨c1,c2,c3,c4,b1,b2,b8,lb,lk⟩:=HF.out _ F1;have H1:=Lib.hid (And.intro (Z0 HX.out F1) (And.intro F1 (And.intro (strs.ext HAB.out.1 F1) (strs.ext HAB.out.2 F1))));clear F1 HX HAB;generalize W.drewN nq=W1 at *;go_upto_region 21 with fail
 go_still_tail 10,(by kernel_rfl)
 change wpList _ _ _ _ _ W1.drew;have F2:Ext W1 W1.drew:=(Fr.refl _ W1).drew;have CJ:=Lib.hid (Q7 x.tokens A ca W1.drew (strs.ext H1.out.2.2.1 F2) HFW.out.1 HFW.out.2.2.1);go_wp2_with (first|(go_at_call 80;refine CJ.out.mono ?_;rintro e w5 ⟨rfl,hx5⟩;have HX5:=Lib.hid (Z0 F2 hx5))|fail)
 clear c1 c2 c3 c4 b1 b2 b8 lb lk CJ F2 hx5;obtain⟨c1,c2,c3,c4,b1,b2,b8,lb,lk⟩:=HF.out _ (Z0 H1.out.2.1 HX5.out);have H2:=Lib.hid (And.intro (Z0 H1.out.1 HX5.out) (strs.ext H1.out.2.2.2 HX5.out));clear H1 HX5;go_upto_region 22 with fail
 go_still_tail 10,(by kernel_rfl)
 change wpList _ _ _ _ _ w5.drew;have F2:Ext w5 w5.drew:=(Fr.refl _ w5).drew;have CJ:=Lib.hid (Q7 x.yomi B cb w5.drew (strs.ext H2.out.2 F2) (by have:=HFW.out;omega) HFW.out.2.2.2);go_wp2_with (first|(go_at_call 80;refine CJ.out.mono ?_;rintro e w6 ⟨rfl,hx5⟩;have HX6:=Lib.hid (Z0 H2.out.1 (Z0 F2 hx5)))|fail)
 clear c1 c2 c3 c4 b1 b2 b8 lb lk CJ F2 hx5 H2 HF;go_upto_region 23 with fail
 go_wp2_with fail
 first|go_ret|go_ret2
 refine⟨_,rfl,?_,Z0 HX6.out ((Fr.refl _ _).alloc _)⟩;refine strs.mono (O':=fun j=>w.heap.size<=j) (fun j _ hj=>Nat.le_trans HX6.out.size hj) (Tw (xs:=[x.pos,Qr x.tokens,Qr x.yomi]) (alloc_at _ _) rfl (fun s hs=>?_) (by omega));have j1:=Kv x.tokens;have j2:=Kv x.yomi;have:=HFW.out;rcases List.mem_cons.1 hs with rfl|hs
 ·exact hps
 ·rcases List.mem_cons.1 hs with rfl|hs
  ·omega
  ·cases List.mem_singleton.1 hs;omega
theorem Zfm(d:Zf)(us:List GRec)(t:Yn)(i:Nat)(hid:t.id=i)(hc:t.cls=3)(hi:i<us.length)(kd H U:Nat)(pu:Option Addr)(w:World)(hD:Wm d us kd pu H U w) :
  Calls Tryz.prog 39 #[.agg (Z9 kd pu t).toArray] w fun e w'=>∃ v,e = .returned v/\strs.R w' (fun j=>w.heap.size<=j) [us[i].pos] [v]/\Ext w w':=by
 have mixed:Tryz.prog.follows .mixedOrders=true:=by kernel_rfl
 obtain⟨ku,n,C,oC,cC,ca,cb,A,B,rfl,hin,K0,_,_,_,hps⟩:=Hl hD t i hid hc hi;generalize us[i]=x at *;clear hD hi;obtain⟨idx,id,cls,pos,st,fi,sf⟩:=t;simp only at hid hc;subst hid hc;obtain⟨rb,hrb⟩:∃ rb,rb=w.heap.size:=⟨_,rfl⟩;have X0:Ext w (w.alloc (Zn kd (some ⟨ku,0,none⟩) ⟨idx,i,3,pos,st,fi,sf⟩)):=(Fr.refl _ _).alloc _;rw[<- hrb]at K0;go_enter Tryz.func39,Tryz.ntmps39
 go_upto_region 1 with fail
 have HX:=Lib.hid X0;rw[<- hrb];clear hrb X0;generalize w.alloc _=W at *;obtain⟨c1,c2,c3,c4,b1,b2,b8,lb,lk⟩:=id K0;clear K0;have hiz:(i:Int)<(n:Int):=by omega
 have hi0:(0:Int)<=(i:Int):=by omega
 go_upto_region 29 with fail
 go_quiet (fail)
 have H1:=Lib.hid (Z0 HX.out ((Fr.refl _ W).drewN nq));clear c1 c2 c3 c4 b1 b2 b8 lb lk HX;generalize W.drewN nq=W1 at *;go_upto_region 30 with fail
 go_wp2_with fail
 first|go_ret|go_ret2
 refine⟨_,rfl,?_,Z0 H1.out ((Fr.refl _ _).alloc _)⟩;exact strs.mono (O':=fun j=>w.heap.size<=j) (fun j _ hj=>Nat.le_trans H1.out.size hj) (Tw (xs:=[x.pos]) (alloc_at _ _) rfl (fun s hs=>by cases List.mem_singleton.1 hs;exact hps) (by omega))
theorem Zdw(t:Yn)(hc:t.cls=0)(kd:Nat)(pu:Option Addr)(w:World):Calls Tryz.prog 38 #[.agg (Z9 kd pu t).toArray] w fun e w'=>e = .returned (.slice none 0 0)/\Ext w w':=by
 obtain⟨idx,id,cls,pos,st,fi,sf⟩:=t;simp only at hc;subst hc;go_enter Tryz.func38,Tryz.ntmps38
 go_wp2_with fail
 first|go_ret|go_ret2
 exact⟨rfl,(Fr.refl _ _).alloc _⟩
theorem Zfn(t:Yn)(hc:t.cls=0)(kd:Nat)(pu:Option Addr)(w:World):Calls Tryz.prog 39 #[.agg (Z9 kd pu t).toArray] w fun e w'=>e = .returned (.slice none 0 0)/\Ext w w':=by
 obtain⟨idx,id,cls,pos,st,fi,sf⟩:=t;simp only at hc;subst hc;go_enter Tryz.func39,Tryz.ntmps39
 go_wp2_with fail
 first|go_ret|go_ret2
 exact⟨rfl,(Fr.refl _ _).alloc _⟩
end
end Go.Proofs.YtoliamijgmifkaaGreatDoor
