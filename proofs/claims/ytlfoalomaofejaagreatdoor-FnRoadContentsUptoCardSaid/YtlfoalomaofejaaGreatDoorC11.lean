/- Maps in memory, as lists of pa -/
import Derived.Test.YtlfoalomaofejaaGreatDoorC1
import Derived.MapKept
import Derived.Maps.AppendAt
import Derived.Deep.OwnRows
set_option linter.all false
set_option maxRecDepth 100000
set_option maxHeartbeats 1000000
section
set_option linter.unusedSectionVars false
namespace Go.Proofs.YtlfoalomaofejaaGreatDoor
open Go.RowKit MapKept
section
variable{κ β:Type}[DecidableEq κ]
def look:List (κ×β)->κ->Option β
 | [],_=>none
 | (a,x)::l,k=>if a=k then some x else look l k
def put:List (κ×β)->κ->β->List (κ×β)
 | [],k,v=>[(k,v)]
 | (a,x)::l,k,v=>if a=k then (a,v)::l else (a,x)::put l k v
theorem Wi(l:List (κ×β))(k k':κ)(v:β):look (put l k v) k'=if k=k' then some v else look l k':=by
 induction l with
 | nil=>simp[put,look]
 | cons p l ih =>
  obtain⟨a,x⟩:=p;unfold put
  split
  ·rename_i e;subst e;simp only[look]
   split<;>simp_all
  ·rename_i e;simp only[look,ih]
   split
   ·rename_i e';subst e';rw[if_neg (Ne.symm e)]
   ·rfl
end
structure Kh{κ:Type}(d:TypeDesc)(kv:κ->Value):Prop where
 isKey:∀ k,IsKey d (kv k)
 inj:∀ a b,kv a=kv b->a=b
theorem Zd2:Kh (κ:=UInt8) (.int .u8) (λc=>Value.int .u8 (c.toNat:Int)):=⟨λ_=>rfl,λa b h=>by
 injection h with _ h
 exact UInt8.toNat_inj.1 Om⟩
theorem Uw:Kh (κ:=ByteArray) .string Value.string:=⟨λ_=>trivial,λa b h=>by cases h;rfl⟩
def Zz{κ:Type}(kv:κ->Value)(r:Nat)(l:List (κ×Value))(w:World):Prop :=
 ∃ es clock,w.heap[r]?=some (.map es clock)/\es.toList.map (λe=>(e.key,e.val))=l.map (λp=>(kv p.1,p.2))/\Stamped es clock
section
variable{κ:Type}[DecidableEq κ]{d:TypeDesc}{kv:κ->Value}{P:Program}{w w':World}{r:Nat}{l:List (κ×Value)}{mty kt et:TypeId}
theorem Zz.lt(h:Zz kv r l w):r<w.heap.size:=by
 obtain⟨es,clock,hb,_⟩:=h;exact (Gs1.1 hb).1
theorem Zz.keep(h:Zz kv r l w){S:Nat->Prop}(f:Fr S w w')(hs:¬ S r):Zz kv r l w':=by
 obtain⟨es,clock,hb,he⟩:=h;exact⟨es,clock,f.heap hb hs,he⟩
theorem Zz.alloc(h:Zz kv r l w)(o:Obj):Zz kv r l (w.alloc o):=by
 obtain⟨es,clock,hb,he⟩:=h;exact⟨es,clock,by rw[alloc_old w o (Gs1.1 hb).1];exact hb,he⟩
theorem Zz.made(kv:κ->Value)(w:World):Zz kv w.heap.size [] (w.alloc (.map #[] 0)):=⟨#[],0,alloc_at _ _,rfl,stamped_empty 0⟩
theorem Qk(K:Kh d kv)(k:κ):∀ (l:List (κ×Value)) (es:List MapEntry) (i:Nat),es.map (λe=>(e.key,e.val))=l.map (λp=>(kv p.1,p.2)) ->
  (Instr.findNow d (kv k) es i=some none/\look l k=none/\(∀ x∈es,x.key≠kv k)/\∀ (v:Value) (clock:Nat),(es++[({ key:=kv k,val:=v,born:=clock }:MapEntry)]).map (λe=>(e.key,e.val))=(put l k v).map (λp=>(kv p.1,p.2))) \/
  ∃ j e,Instr.findNow d (kv k) es i=some (some (i+j,e.val))/\look l k=some e.val/\es[j]?=some e/\e.key=kv k/\∀ f:MapEntry->MapEntry,(f e).key=kv k->(es.modify j f).map (λe=>(e.key,e.val))=(put l k (f e).val).map (λp=>(kv p.1,p.2))
 | [],[],_,_=>.inl ⟨rfl,rfl,by simp,λ_ _=>rfl⟩
 | (a,x)::l,[],i,h=>by simp at h
 | [],e::es,i,h=>by simp at h
 | (a,x)::l,e::es,i,h=>by
  simp only[List.map_cons,List.cons.injEq,Prod.mk.injEq]at h;obtain⟨⟨h1,h2⟩,h3⟩:=h;have hk:IsKey d e.key:=h1▸K.isKey a;obtain⟨q,hq,hiff⟩:=sameNow_of_keys (K.isKey k) hk;by_cases hak:a=k
  ·subst hak;have:q=true:=hiff.2 h1.symm;subst this;refine .inr ⟨0,e,by simp[Instr.findNow,hq],by simp[look,h2],rfl,h1,λf hf=>?_⟩;simp[put,List.modify,hf,h3]
  ·have:q=false:=by
    cases q with
    | false=>rfl
    | true=>exact absurd (K.inj _ _ ((hiff.1 rfl).trans h1)).symm hak
   subst this;rcases Qk K k l es (i+1) h3 with ⟨a1,a2,a0,a3⟩|⟨j,e',a1,a2,a3,a4,a5⟩
   ·refine .inl ⟨by simp[Instr.findNow,hq,a1],by simp[look,hak,a2],λx hx=>?_,λv clock=>?_⟩
    ·rcases List.mem_cons.1 hx with rfl|hx
     ·rw[h1];exact λe=>hak (K.inj _ _ e)
     ·exact a0 x hx
    simp only[put,if_neg hak,List.cons_append,List.map_cons,a3 v clock,h1,h2]
   ·refine .inr ⟨j+1,e',by simp[Instr.findNow,hq,a1];omega,by simp[look,hak,a2],by simpa using a3,a4,λf hf=>?_⟩;simp only[put,if_neg hak,List.modify_succ_cons,List.map_cons,a5 f hf,h1,h2]
theorem Jq(K:Kh d kv)(hm:P.underlying mty=some (.map kt et))(hd:P.underlying kt=some d){z:Value}(hz:(zeroValue et).run P w=.ok z w)(h:Zz kv r l w)(k:κ)(c:Bool) :
  (Instr.lookup mty (.map (some r)) (kv k) c).run P w=.ok (if c then .tuple #[(look l k).getD z,.bool (look l k).isSome] else (look l k).getD z) w:=by
 obtain⟨es,clock,hb,he,_⟩:=h;rcases Qk K k l es.toList 0 he with ⟨h1,h2,_⟩|⟨j,e,h1,h2,_⟩
 ·simp[Instr.lookup,run_underlying hm,MapKept.run_getObj_map hb,run_checkKey hd (K.isKey k),run_findKey hd h1,Result.andThen,hz,h2]
 ·simp[Instr.lookup,run_underlying hm,MapKept.run_getObj_map hb,run_checkKey hd (K.isKey k),run_findKey hd h1,Result.andThen,h2]
theorem Ka(w:World)(r:Nat)(o:Obj):Fr (λk=>k=r) w { w with heap:=w.heap.setIfInBounds r o } :=
 ⟨rfl,rfl,rfl,by simp,λk _ hn=>by
  have:r≠k:=λe=>hn e.symm
  simp[this]⟩
theorem Nn(K:Kh d kv)(hm:P.underlying mty=some (.map kt et))(hd:P.underlying kt=some d)(h:Zz kv r l w)(k:κ)(v:Value) :
  ∃ w',(Instr.mapUpdate mty (.map (some r)) (kv k) v).run P w=.ok () w'/\Zz kv r (put l k v) w'/\Fr (λk=>k=r) w w'/\w'.heap.size=w.heap.size:=by
 obtain⟨es,clock,hb,he,hst⟩:=h;rcases Qk K k l es.toList 0 he with ⟨h1,h2,h0,h3⟩|⟨j,e,h1,h2,h3,h4,h5⟩
 ·refine⟨_,by simp[Instr.mapUpdate,run_underlying hm,MapKept.run_getObj_map hb,run_checkKey hd (K.isKey k),run_findKey hd h1,run_setObj_map _ hb,Result.andThen];rfl,?_,Ka w r _,by simp⟩;refine⟨_,_,(heap_set hb).1,?_,stamped_push hst h0⟩;rw[Array.toList_push];exact h3 v clock
 ·have hj:es[j]?=some e:=by simpa using h3
  refine⟨_,by simp[Instr.mapUpdate,run_underlying hm,MapKept.run_getObj_map hb,run_checkKey hd (K.isKey k),run_findKey hd h1,hj,h4,run_keyThatStays (K.isKey k),run_setObj_map _ hb,Result.andThen];rfl,?_,Ka w r _,by simp⟩;refine⟨_,_,(heap_set hb).1,?_,stamped_modify hst _ _ (λ_ _=>rfl) (λe' _ he'=>by rw[hj]at he';cases he';exact h4.symm)⟩;rw[Array.toList_modify];exact h5 (λe=>{ e with key:=kv k,val:=v }) rfl
theorem Zk{ops:Array Oper}{rest:List Oper}{o:Oper}{a:Act}{Q:Exit->Act->World->Prop}(hg:o.guard=none)(m x:Operand)(c:Bool)(hop:o.op=Op.lookup mty m x c)
  (K:Kh d kv) (ht:P.underlying mty=some (.map kt et)) (hd:P.underlying kt=some d) {z:Value} (hz:(zeroValue et).run P w=.ok z w) (hm:a.eval m=.map (some r)) (h:Zz kv r l w) (k:κ) (hx:a.eval x=kv k)
  (hK:wpList P ops Q rest (a.put o.dst (if c then .tuple #[(look l k).getD z,.bool (look l k).isSome] else (look l k).getD z)) w):wpList P ops Q (o::rest) a w:=by
 refine wpList_plain hg λK' hK'=>?_
 have hrun:=Jq K ht hd hz h k c;unfold Oper.wp;simp only[execOp,hop,hm,hx,hrun,Sem.run_bind,Sem.run_pure,Result.andThen_ok];exact hK' _ _ hK
theorem Yj{ops:Array Oper}{rest:List Oper}{o:Oper}{a:Act}{Q:Exit->Act->World->Prop}(hg:o.guard=none)(m x u:Operand)(hop:o.op=Op.mapUpdate mty m x u)
  (K:Kh d kv) (ht:P.underlying mty=some (.map kt et)) (hd:P.underlying kt=some d) (hm:a.eval m=.map (some r)) (h:Zz kv r l w) (k:κ) (v:Value) (hx:a.eval x=kv k) (hu:a.eval u=v)
  (hK:∀ w',Zz kv r (put l k v) w'->Fr (λk=>k=r) w w'->w'.heap.size=w.heap.size->wpList P ops Q rest (a.put o.dst undef) w'):wpList P ops Q (o::rest) a w:=by
 refine wpList_plain hg λK' hK'=>?_
 obtain⟨w',hrun,h1,h2,h3⟩:=Nn K ht hd h k v;unfold Oper.wp;simp[execOp,hop,hm,hx,hu,hrun,Result.andThen];exact hK' _ _ (hK w' h1 h2 h3)
end
end Go.Proofs.YtlfoalomaofejaaGreatDoor
end
namespace Go.Proofs.YtlfoalomaofejaaGreatDoor
section
open Go.RowKit DT
structure Qx where
 P:(Nat->Prop)->World->Prop
 st:∀ {F w w'},P F w->w.heap.size<=w'.heap.size->(∀ b,F b->b<w.heap.size->w'.heap[b]?=w.heap[b]?)->P F w'
def Yo(H:Nat)(l:List Qx)(w:World):Prop :=
 ∃ Fs:Nat->Nat->Prop,(∀ i (h:i<l.length),l[i].P (Fs i) w)/\(∀ i j,i<l.length->j<l.length->i≠j->∀ b,Fs i b->¬ Fs j b)/\(∀ i,i<l.length->∀ b,Fs i b->H<=b/\b<w.heap.size)
theorem Yo.ext{H:Nat}{l:List Qx}{w w':World}(h:Yo H l w)(f:Zf w w'):Yo H l w':=by
 obtain⟨Fs,h1,h2,h3⟩:=h;exact⟨Fs,λi hi=>(l[i]).st (h1 i hi) f.size (λb _ hb=>f.block b hb id),h2,λi hi b hb=>⟨(h3 i hi b hb).1,Nat.lt_of_lt_of_le (h3 i hi b hb).2 f.size⟩⟩
theorem Yo.low{H:Nat}{l:List Qx}{w w':World}(h:Yo H l w)(f:Fr (λj=>j<H) w w'):Yo H l w':=by
 obtain⟨Fs,h1,h2,h3⟩:=h;exact⟨Fs,λi hi=>(l[i]).st (h1 i hi) f.size (λb hF hb=>f.block b hb (λq=>by have:=(h3 i hi b hF).1;omega)),h2,λi hi b hb=>⟨(h3 i hi b hb).1,Nat.lt_of_lt_of_le (h3 i hi b hb).2 f.size⟩⟩
theorem Yk{w:World}{b:Nat}{cs:Array Value}{T:TypeId}{f:Nat×Nat}(h:w.heap[b]?=some (.cells cs T f))(j:Nat)(u:Value):(w.setCell ⟨b,j,none⟩ u).heap[b]?=some (.cells (cs.setIfInBounds j u) T f):=by
 simp[World.setCell,Array.getElem?_modify,h]
theorem Yo.upd{H:Nat}{l:List Qx}{w:World}(h:Yo H l w)(i:Nat)(hi:i<l.length) :
  ∃ F,l[i].P F w/\(∀ b,F b->H<=b/\b<w.heap.size)/\∀ (w':World) (A:Qx) (F':Nat->Prop),Fr F w w'->A.P F' w'->(∀ b,F' b->F b\/w.heap.size<=b)->(∀ b,F' b->b<w'.heap.size)->H<=w.heap.size->Yo H (l.set i A) w':=by
 obtain⟨Fs,h1,h2,h3⟩:=h;refine⟨Fs i,h1 i hi,h3 i hi,λw' A F' hf hA hF hlt hH=>⟨λk=>if k=i then F' else Fs k,λk hk=>?_,λk j hk hj hkj b hb=>?_,λk hk b hb=>?_⟩⟩
 ·rw[List.length_set]at hk;by_cases e:k=i
  ·subst e;simp only[List.getElem_set_self,if_true];exact hA
  ·simp only[if_neg e];rw[List.getElem_set_ne (λq=>e q.symm)];exact (l[k]).st (h1 k hk) hf.size (λb hb hlt=>hf.block b hlt (h2 k i hk hi e b hb))
 ·rw[List.length_set]at hk hj;by_cases e:k=i
  ·rw[if_pos e]at hb;have e2:j≠i:=λq=>hkj (e.trans q.symm)
   simp only[if_neg e2];rcases hF b hb with q|q
   ·exact h2 i j hi hj (λq=>e2 q.symm) b q
   ·intro r;have:=(h3 j hj b r).2;omega
  ·rw[if_neg e]at hb;by_cases e2:j=i
   ·simp only[if_pos e2];intro r;rcases hF b r with q|q
    ·exact h2 k i hk hi e b hb q
    ·have:=(h3 k hk b hb).2;omega
   ·simp only[if_neg e2];exact h2 k j hk hj hkj b hb
 ·rw[List.length_set]at hk;by_cases e:k=i
  ·rw[if_pos e]at hb;rcases hF b hb with q|q
   ·exact⟨(h3 i hi b q).1,hlt b hb⟩
   ·exact⟨Om,hlt b hb⟩
  ·rw[if_neg e]at hb;exact⟨(h3 k hk b hb).1,Nat.lt_of_lt_of_le (h3 k hk b hb).2 hf.size⟩
theorem Yo.snoc{H:Nat}{l:List Qx}{w w':World}(h:Yo H l w)(f:Zf w w')(hH:H<=w.heap.size)(A:Qx)(F':Nat->Prop)(hA:A.P F' w')(hF:∀ b,F' b->w.heap.size<=b/\b<w'.heap.size):Yo H (l++[A]) w':=by
 obtain⟨Fs,h1,h2,h3⟩:=h;refine⟨λk=>if k=l.length then F' else Fs k,λk hk=>?_,λk j hk hj hkj b hb=>?_,λk hk b hb=>?_⟩
 ·rw[List.length_append,List.length_singleton]at hk;by_cases e:k=l.length
  ·subst e;simp only[if_true,List.getElem_concat_length];exact hA
  ·simp only[if_neg e];rw[List.getElem_append_left Om];exact (l[k]' Om).st (h1 k Om) f.size (λb _ hb=>f.block b hb id)
 ·rw[List.length_append,List.length_singleton]at hk hj;by_cases e:k=l.length
  ·rw[if_pos e]at hb;have e2:j≠l.length:=λq=>hkj (e.trans q.symm)
   simp only[if_neg e2];intro r;have:=(h3 j Om b r).2;have:=(hF b hb).1;omega
  ·rw[if_neg e]at hb;by_cases e2:j=l.length
   ·simp only[if_pos e2];intro r;have:=(h3 k Om b hb).2;have:=(hF b r).1;omega
   ·simp only[if_neg e2];exact h2 k j Om Om hkj b hb
 ·rw[List.length_append,List.length_singleton]at hk;by_cases e:k=l.length
  ·rw[if_pos e]at hb;exact⟨Nt hH (hF b hb).1,(hF b hb).2⟩
  ·rw[if_neg e]at hb;exact⟨(h3 k Om b hb).1,Nat.lt_of_lt_of_le (h3 k Om b hb).2 f.size⟩
theorem Yo.app{H H':Nat}{l m:List Qx}{w w':World}(h:Yo H l w)(f:Zf w w')(k:Yo H' m w')(hH:w.heap.size<=H')(hH2:H<=w.heap.size):Yo H (l++m) w':=by
 obtain⟨Fs,h1,h2,h3⟩:=h;obtain⟨Gs,k1,k2,k3⟩:=k;refine⟨λi=>if i<l.length then Fs i else Gs (i-l.length),λi hi=>?_,λi j hi hj hij b hb=>?_,λi hi b hb=>?_⟩
 ·rw[List.length_append]at hi;by_cases e:i<l.length
  ·simp only[if_pos e];rw[List.getElem_append_left e];exact (l[i]).st (h1 i e) f.size (λb _ hb=>f.block b hb id)
  ·simp only[if_neg e];rw[List.getElem_append_right Om];exact k1 _ Om
 ·rw[List.length_append]at hi hj;by_cases e:i<l.length<;>by_cases e2:j<l.length
  ·rw[if_pos e]at hb;simp only[if_pos e2];exact h2 i j e e2 hij b hb
  ·rw[if_pos e]at hb;simp only[if_neg e2];intro r;have:=(h3 i e b hb).2;have:=(k3 _ Om b r).1;omega
  ·rw[if_neg e]at hb;simp only[if_pos e2];intro r;have:=(h3 j e2 b r).2;have:=(k3 _ Om b hb).1;omega
  ·rw[if_neg e]at hb;simp only[if_neg e2];exact k2 _ _ Om Om Om b hb
 ·rw[List.length_append]at hi;by_cases e:i<l.length
  ·rw[if_pos e]at hb;exact⟨(h3 i e b hb).1,Nat.lt_of_lt_of_le (h3 i e b hb).2 f.size⟩
  ·rw[if_neg e]at hb;have:=k3 _ Om b hb;exact⟨Om,this.2⟩
theorem Yo.nil(H:Nat)(w:World):Yo H [] w:=⟨λ_ _=>False,λi h=>by simp at h,λi j h=>by simp at h,λi h=>by simp at h⟩
theorem Yo.get{H:Nat}{l:List Qx}{w:World}(h:Yo H l w)(i:Nat)(hi:i<l.length):∃ F,l[i].P F w/\∀ b,F b->H<=b/\b<w.heap.size:=by
 obtain⟨F,h1,h2,_⟩:=h.upd i hi;exact⟨F,h1,h2⟩
theorem frz{F:Nat->Prop}{w w':World}(_:w.heap.size<=w'.heap.size)(h:∀ b,F b->b<w.heap.size->w'.heap[b]?=w.heap[b]?){b:Nat}(hb:F b){o:Obj}(ho:w.heap[b]?=some o):w'.heap[b]?=some o:=by
 rw[h b hb (Gs1.1 ho).1];exact ho
def Tj(b:Nat)(cs:Array Value)(T:TypeId):Qx:=⟨λF w=>w.heap[b]?=some (.cells cs T (0,0))/\F b,λh hs hf=>⟨frz hs hf h.2 h.1,h.2⟩⟩
def Yn(T:TypeId)(k:Nat)(v:Value)(n:Nat)(xs:List Value):Qx :=
 ⟨λF w=>w.ownsRow 0 T k v n xs/\∀ b,v.ownBlock=some b->F b,by
  rintro F w w' ⟨⟨hl,h|⟨g,cap,cur,rfl,hb,hc,h2⟩⟩,h1⟩ hs hf
  ·exact⟨⟨hl,.inl h⟩,h1⟩
  ·exact⟨⟨hl,.inr ⟨g,cap,cur,rfl,hb,frz hs hf (h1 g rfl) hc,h2⟩⟩,h1⟩⟩
def Lb{κ:Type}[DecidableEq κ](kv:κ->Value)(r:Nat)(l:List (κ×Value)):Qx :=
 ⟨λF w=>Zz kv r l w/\F r,by
  rintro F w w' ⟨h,h1⟩ hs hf;have hlt:=h.lt;obtain⟨es,clock,a,b,c⟩:=h
  exact⟨⟨es,clock,frz hs hf h1 a,b,c⟩,h1⟩⟩
def rowD{α:Type}(d:Ty α)(T:TypeId)(v:Value)(xs:List α):Qx :=
 ⟨λF w=>∃ cs:List Value,cs.length=xs.length/\w.ownsRow 0 T 1 v xs.length cs/\(∀ b,v.ownBlock=some b->F b)/\∀ i (h:i<xs.length) (h':i<cs.length),d.R w (λj=>F j/\v.ownBlock≠some j) xs[i] [cs[i]],by
  rintro F w w' ⟨cs,h0,⟨hl,h|⟨g,cap,cur,rfl,hb,hc,h2⟩⟩,h1,h3⟩ hs hf
  ·exact⟨cs,h0,⟨hl,.inl h⟩,h1,λi hi hi'=>d.move hs (λk hk ho=>hf k ho.1 hk) (h3 i hi hi')⟩
  ·exact⟨cs,h0,⟨hl,.inr ⟨g,cap,cur,rfl,hb,frz hs hf (h1 g rfl) hc,h2⟩⟩,h1,λi hi hi'=>d.move hs (λk hk ho=>hf k ho.1 hk) (h3 i hi hi')⟩⟩
def Pn(b:Nat)(T:TypeId)(n:Nat)(f:Nat->Value):Qx :=
 ⟨λF w=>w.rowIs b T n f/\F b,by
  rintro F w w' ⟨⟨c,a,h1⟩,h2⟩ hs hf
  exact⟨⟨c,frz hs hf h2 a,h1⟩,h2⟩⟩
variable{H:Nat}{l:List Qx}{w w':World}
theorem J4{base sz n g:Nat}{e:TypeId}{v:Value}{xs:List Value}(h:w.ownsRow base e sz v n xs)(hg:v.ownBlock=some g):g<w.heap.size:=by
 obtain⟨_,⟨rfl,_⟩|⟨g',cap,cur,rfl,_,hc,_⟩⟩:=h
 ·cases hg
 ·have:g'=g:=by simpa [Value.ownBlock] using hg
  subst this;exact (Gs1.1 hc).1
theorem Yo.row{T:TypeId}{k n:Nat}{v:Value}{xs:List Value}(h:Yo H l w)(i:Nat)(hi:i<l.length)(e:l[i]=Yn T k v n xs)(hH:H<=w.heap.size) :
  w.ownsRow 0 T k v n xs/\(∀ b,v.ownBlock=some b->H<=b/\b<w.heap.size)/\∀ (w':World) (v':Value) (n':Nat) (xs':List Value),w.grownBy w' v.ownBlock->w'.ownsRow 0 T k v' n' xs'->(v'.ownBlock=v.ownBlock\/v'.ownBlock=some w.heap.size)->Yo H (l.set i (Yn T k v' n' xs')) w':=by
 obtain⟨F,h1,h2,h3⟩:=h.upd i hi;rw[e]at h1;obtain⟨h1,h4⟩:=h1;refine⟨h1,λb hb=>h2 b (h4 b hb),λw' v' n' xs' hg ho hat=>h3 w' _ (λb=>F b\/v'.ownBlock=some b) ((Fr.refl F w).grown hg (λb hb _=>h4 b hb)) ⟨ho,λb hb=>.inr hb⟩ (λb hb=>?_) (λb hb=>?_) hH⟩
 ·rcases hb with hb|hb
  ·exact .inl hb
  ·rcases hat with q|q
   ·exact .inl (h4 b (by rw[<- q];exact hb))
   ·right;rw[q]at hb;injection hb with hb;omega
 ·rcases hb with hb|hb
  ·exact Nat.lt_of_lt_of_le (h2 b hb).2 hg.size
  ·exact J4 ho hb
theorem Yo.rowApp{T:TypeId}{k n:Nat}{v:Value}{xs:List Value}(h:Yo H l w)(i:Nat)(hi:i<l.length)(e:l[i]=Yn T k v n xs)(hH:H<=w.heap.size){o:Obj}{w6:World}{v':Value}{n':Nat}{xs':List Value}
  (hg:(w.alloc o).grownBy w6 v.ownBlock) (ho:w6.ownsRow 0 T k v' n' xs') (hat:v'.ownBlock=v.ownBlock\/v'.ownBlock=some (w.alloc o).heap.size):Yo H (l.set i (Yn T k v' n' xs')) w6/\H<=w6.heap.size:=by
 have hs:(w.alloc o).heap.size=w.heap.size+1:=Za _ _;exact⟨((h.ext ((Fl w).alloc o)).row i hi e Om).2.2 w6 v' n' xs' hg ho hat,by have:=hg.size;omega⟩
theorem Yo.cell{b:Nat}{cs:Array Value}{T:TypeId}(h:Yo H l w)(i:Nat)(hi:i<l.length)(e:l[i]=Tj b cs T)(hH:H<=w.heap.size) :
  w.heap[b]?=some (.cells cs T (0,0))/\H<=b/\∀ (j:Nat) (u:Value),Yo H (l.set i (Tj b (cs.setIfInBounds j u) T)) (w.setCell ⟨b,j,none⟩ u):=by
 obtain⟨F,h1,h2,h3⟩:=h.upd i hi;rw[e]at h1;obtain⟨h1,h4⟩:=h1;refine⟨h1,(h2 b h4).1,λj u=>h3 _ _ F ((Fr.refl F w).setCell _ _ (λ_=>h4)) ⟨?_,h4⟩ (λb hb=>.inl hb) (λb hb=>?_) hH⟩
 ·simp[World.setCell,Array.getElem?_modify,h1]
 ·have:=(h2 b hb).2;simpa [World.setCell] using this
theorem Yo.map{κ:Type}[DecidableEq κ]{kv:κ->Value}{r:Nat}{ps:List (κ×Value)}(h:Yo H l w)(i:Nat)(hi:i<l.length)(e:l[i]=Lb kv r ps)(hH:H<=w.heap.size) :
  Zz kv r ps w/\H<=r/\∀ (w':World) (ps':List (κ×Value)),Fr (λj=>j=r) w w'->Zz kv r ps' w'->Yo H (l.set i (Lb kv r ps')) w':=by
 obtain⟨F,h1,h2,h3⟩:=h.upd i hi;rw[e]at h1;obtain⟨h1,h4⟩:=h1;exact⟨h1,(h2 r h4).1,λw' ps' hf hm=>h3 w' _ F (hf.mono (λj _ q=>by rw[q];exact h4)) ⟨hm,h4⟩ (λb hb=>.inl hb) (λb hb=>Nat.lt_of_lt_of_le (h2 b hb).2 hf.size) hH⟩
theorem Yo.block{b n:Nat}{T:TypeId}{f:Nat->Value}(h:Yo H l w)(i:Nat)(hi:i<l.length)(e:l[i]=Pn b T n f)(hH:H<=w.heap.size) :
  w.rowIs b T n f/\H<=b/\∀ (j:Nat) (u:Value),Yo H (l.set i (Pn b T n (λx=>if x=j then u else f x))) (w.setCell ⟨b,j,none⟩ u):=by
 obtain⟨F,h1,h2,h3⟩:=h.upd i hi;rw[e]at h1;obtain⟨h1,h4⟩:=h1;refine⟨h1,(h2 b h4).1,λj u=>h3 _ _ F ((Fr.refl F w).setCell _ _ (λ_=>h4)) ⟨h1.set j u,h4⟩ (λb hb=>.inl hb) (λb hb=>?_) hH⟩;have:=(h2 b hb).2;simpa [World.setCell] using this
theorem Yo.rowD{α:Type}{d:Ty α}{T:TypeId}{v c:Value}{xs:List α}{x:α}{w1:World}(h:Yo H l w)(i:Nat)(hi:i<l.length)(e:l[i]=Go.Proofs.YtlfoalomaofejaaGreatDoor.rowD d T v xs)(hH:H<=w.heap.size)(hx:Zf w w1)(hr:d.R w1 (λj=>w.heap.size<=j) x [c]) :
  ∃ cs:List Value,cs.length=xs.length/\w1.ownsRow 0 T 1 v xs.length cs/\(∀ b,v.ownBlock=some b->H<=b/\b<w.heap.size)/\∀ (wa w':World) (v':Value),Zf w1 wa->wa.grownBy w' v.ownBlock->w'.ownsRow 0 T 1 v' (xs.length+1) (cs++[c])->(v'.ownBlock=v.ownBlock\/v'.ownBlock=some wa.heap.size)->Yo H (l.set i (Go.Proofs.YtlfoalomaofejaaGreatDoor.rowD d T v' (xs++[x]))) w':=by
 obtain⟨F,h1,h2,h3⟩:=h.upd i hi;rw[e]at h1;obtain⟨cs,h0,ho,h4,h5⟩:=h1
 have ho1:w1.ownsRow 0 T 1 v xs.length cs:=by
  obtain⟨hl,q|⟨g,cap,cur,rfl,hb,hc,q⟩⟩:=ho
  ·exact⟨hl,.inl q⟩
  ·exact⟨hl,.inr ⟨g,cap,cur,rfl,hb,hx.heap hc id,q⟩⟩
 refine⟨cs,h0,ho1,λb hb=>h2 b (h4 b hb),λwa w' v' hxa hg hn hat=>?_⟩;have s1:=hx.size;have s2:=hxa.size;have s3:=hg.size;have hvo:∀ b,v.ownBlock=some b->b<w.heap.size:=λb hb=>(h2 b (h4 b hb)).2
 have hv':∀ b,v'.ownBlock=some b->v.ownBlock=some b\/b=wa.heap.size:=λb hb=>by
  rcases hat with q|q
  ·left;rw[<- q];exact hb
  ·right;rw[q]at hb;injection hb with hb;exact hb.symm
 have F1:Fr (λj=>v.ownBlock=some j) w1 w':=(Fr.trans (S:=λj=>v.ownBlock=some j) (hxa.mono (λ_ _ e=>e.elim)) ((Fr.refl (λj=>v.ownBlock=some j) wa).grown hg (λk q _=>q)) (λ_ _ q=>q));have F0:Fr (λj=>v.ownBlock=some j) w w':=Fr.trans (S:=λj=>v.ownBlock=some j) (hx.mono (λ_ _ e=>e.elim)) F1 (λ_ _ q=>q);refine h3 w' _ (λb=>F b\/(w.heap.size<=b/\b<w'.heap.size)) (F0.mono (λj _ q=>h4 j q)) ⟨cs++[c],by simp[h0],by rw[List.length_append,List.length_singleton];exact hn,λb hb=>?_,λk hk hk'=>?_⟩ (λb hb=>hb.imp id (λq=>q.1)) (λb hb=>?_) hH
 ·rcases hv' b hb with q|q
  ·exact .inl (h4 b q)
  ·exact .inr ⟨Om,J4 hn hb⟩
 ·rcases Nat.lt_or_ge k xs.length with q|q
  ·have e1:(xs++[x])[k]=xs[k]:=List.getElem_append_left q;have e2:(cs++[c])[k]=cs[k]' Om:=List.getElem_append_left Om;rw[e1,e2];refine d.mono (λj _ ho=>⟨.inl ho.1,λr=>?_⟩) (d.move F0.size (λj hj ho=>F0.block j hj (λr=>ho.2 r)) (h5 k q Om));rcases hv' j r with z|z
   ·exact ho.2 z
   ·have:=(h2 j ho.1).2;omega
  ·have hk2:k=xs.length:=by rw[List.length_append,List.length_singleton]at hk;omega
   subst hk2;have e1:(xs++[x])[xs.length]=x:=(by simp);have e2:(cs++[c])[xs.length]'(by simp[h0])=c:=(by simp[<- h0]);rw[e1,e2];refine d.mono (λj hj ho=>⟨.inr ⟨ho.1,hj⟩,λr=>?_⟩) (d.move (O:=λj=>w.heap.size<=j/\j<w1.heap.size) F1.size (λj hj ho=>F1.block j hj (λr=>?_)) (d.mono (λj hj ho=>⟨ho,hj⟩) hr))
   ·rcases hv' j r with z|z
    ·have:=hvo j z;omega
    ·omega
   ·have:=hvo j r;omega
 ·rcases hb with q|q
  ·have:=(h2 b q).2;omega
  ·exact q.2
theorem Yo.rowDApp{α:Type}{d:Ty α}{T:TypeId}{v c:Value}{xs:List α}{x:α}{w1:World}{n:Nat}(h:Yo H l w)(i:Nat)(hi:i<l.length)(e:l[i]=Go.Proofs.YtlfoalomaofejaaGreatDoor.rowD d T v xs)(hn:xs.length=n)(hH:H<=w.heap.size)(hx:Zf w w1)(hr:d.R w1 (λj=>w.heap.size<=j) x [c]) :
  ∃ cs:List Value,w1.ownsRow 0 T 1 v n cs/\∀ (o:Obj) (w':World) (v':Value),(w1.alloc o).grownBy w' v.ownBlock->w'.ownsRow 0 T 1 v' (n+1) (cs++[c])->(v'.ownBlock=v.ownBlock\/v'.ownBlock=some (w1.alloc o).heap.size)->Yo H (l.set i (Go.Proofs.YtlfoalomaofejaaGreatDoor.rowD d T v' (xs++[x]))) w'/\H<=w'.heap.size:=by
 obtain⟨cs,_,h2,_,h4⟩:=h.rowD i hi e hH hx hr;subst hn;refine⟨cs,h2,λo w' v' hg ho hat=>⟨h4 _ w' v' ((Fl w1).alloc o) hg ho hat,?_⟩⟩;have h1:=hg.size;have h3:=hx.size;have h5:(w1.alloc o).heap.size=w1.heap.size+1:=Za _ _;omega
end
end Go.Proofs.YtlfoalomaofejaaGreatDoor
section
namespace TR
abbrev F:=Nat->Int
def up(f:F)(i:Nat)(v:Int):F:=λj=>if j=i then v else f j
theorem Y0(f:F)(i:Nat)(v:Int):up f i v i=v:=by simp[up]
theorem Yd(f:F){i j:Nat}(v:Int)(h:j≠i):up f i v j=f j:=by simp[up,h]
def Ss(n:Nat)(U:Nat->Prop)(y:Nat):Prop:=y<n/\¬ U y/\∀ z,z<y->U z
def Rn(n:Nat)(U:Nat->Prop)(x:Nat):Prop:=x<n/\¬ U x/\∀ z,x<z->z<n->U z
def Vq(n:Nat)(U:Nat->Prop)(x y:Nat):Prop :=
 (x<y/\y<n/\¬ U x/\¬ U y/\∀ z,x<z->z<y->U z)\/(Rn n U x/\Ss n U y)
theorem Ss.uniq{n:Nat}{U:Nat->Prop}{x y:Nat}(h:Ss n U x)(k:Ss n U y):x=y:=by
 rcases Nat.lt_trichotomy x y with e|e|e
 ·exact absurd (k.2.2 x e) h.2.1
 ·exact e
 ·exact absurd (h.2.2 y e) k.2.1
theorem Rn.uniq{n:Nat}{U:Nat->Prop}{x y:Nat}(h:Rn n U x)(k:Rn n U y):x=y:=by
 rcases Nat.lt_trichotomy x y with e|e|e
 ·exact absurd (h.2.2 y e k.1) k.2.1
 ·exact e
 ·exact absurd (k.2.2 x e h.1) h.2.1
theorem Vq.lt{n:Nat}{U:Nat->Prop}{x y:Nat}(h:Vq n U x y):x<n/\y<n/\¬ U x/\¬ U y:=by
 rcases h with ⟨a,b,c,d,_⟩|⟨a,b⟩
 ·exact⟨Om,b,c,d⟩
 ·exact⟨a.1,b.1,a.2.1,b.2.1⟩
theorem Vq.uniq{n:Nat}{U:Nat->Prop}{x y y':Nat}(h:Vq n U x y)(k:Vq n U x y'):y=y':=by
 have hl:=h.lt;have kl:=k.lt;rcases h with ⟨a,b,c,d,e⟩|⟨a,b⟩
 ·rcases k with ⟨a',b',c',d',e'⟩|⟨a',b'⟩
  ·rcases Nat.lt_trichotomy y y' with q|q|q
   ·exact absurd (e' y a q) d
   ·exact q
   ·exact absurd (e y' a' q) d'
  ·exact absurd (a'.2.2 y a b) d
 ·rcases k with ⟨a',b',c',d',e'⟩|⟨a',b'⟩
  ·exact absurd (a.2.2 y' a' b') d'
  ·exact b.uniq b'
theorem Vq.inj{n:Nat}{U:Nat->Prop}{x x' y:Nat}(h:Vq n U x y)(k:Vq n U x' y):x=x':=by
 rcases h with ⟨a,b,c,d,e⟩|⟨a,b⟩
 ·rcases k with ⟨a',b',c',d',e'⟩|⟨a',b'⟩
  ·rcases Nat.lt_trichotomy x x' with q|q|q
   ·exact absurd (e x' q a') c'
   ·exact q
   ·exact absurd (e' x q a) c
  ·exact absurd (b'.2.2 x a) c
 ·rcases k with ⟨a',b',c',d',e'⟩|⟨a',b'⟩
  ·exact absurd (b.2.2 x' a') c'
  ·exact a.uniq a'
structure FreeOk(n:Nat)(B C:F)(U:Nat->Prop):Prop where
 pos:256<=n
 root:U 0
 lt:∀ x,U x->x<n
 used:∀ x,U x->x≠0->0<=C x
 nxt:∀ x,x<n->¬ U x->∃ y:Nat,C x = -(y:Int)/\Vq n U x y
 prv:∀ x,x<n->¬ U x->∃ y:Nat,B x = -(y:Int)/\Vq n U y x
 head:∃ y:Nat,C 0 = -(y:Int)/\Ss n U y
section
variable{n:Nat}{B C:F}{U:Nat->Prop}
theorem FreeOk.free_iff(g:FreeOk n B C U){x:Nat}(hx:x<n)(h0:x≠0):C x<0↔¬ U x:=by
 constructor
 ·intro h hu;have:=g.used x hu h0;omega
 ·intro hu;obtain⟨y,hc,hy⟩:=g.nxt x hx hu;have:=hy.lt;have h1:y≠0:=λe=>this.2.2.2 (e▸g.root)
  omega
theorem FreeOk.remove(g:FreeOk n B C U){p:Nat}(hp:p<n)(hu:¬ U p)(hne:B p≠C p){c:Int}(hc:0<=c) :
  ∃ nx px:Nat,C p = -(nx:Int)/\B p = -(px:Int)/\nx<n/\px<n/\nx≠0/\px≠0/\nx≠p/\px≠p/\¬ U nx/\¬ U px /\
   FreeOk n (up B nx (B p)) (up (up (up C 0 (if -(p:Int)=C 0 then C p else C 0)) px (C p)) p c) (λx=>U x\/x=p):=by
 obtain⟨nx,hC,hN⟩:=g.nxt p hp hu;obtain⟨px,hB,hP⟩:=g.prv p hp hu;have hNl:=hN.lt;have hPl:=hP.lt
 have hne':nx≠px:=by
  intro e;apply hne;rw[hC,hB,e]
 have hnp:nx≠p:=by
  intro e;subst e;have:=hN.inj hP;omega
 have hpp:px≠p:=by
  intro e;subst e;have:=hN.uniq hP;omega
 have hn0:nx≠0:=λe=>hNl.2.2.2 (e▸g.root)
 have hp0:px≠0:=λe=>hPl.2.2.1 (e▸g.root)
 have hpz:p≠0:=λe=>hu (e▸g.root)
 have hring:∀ x y,x≠p->y≠p->Vq n U x y->Vq n (λx=>U x\/x=p) x y:=by
  intro x y hx hy h;rcases h with ⟨a,b,c,d,e⟩|⟨a,b⟩
  ·exact .inl ⟨a,b,λh=>h.elim c hx,λh=>h.elim d hy,λz h1 h2=>.inl (e z h1 h2)⟩
  ·exact .inr ⟨⟨a.1,λh=>h.elim a.2.1 hx,λz h1 h2=>.inl (a.2.2 z h1 h2)⟩,⟨b.1,λh=>h.elim b.2.1 hy,λz h1=>.inl (b.2.2 z h1)⟩⟩
 have hjoin:Vq n (λx=>U x\/x=p) px nx:=by
  rcases hP with ⟨a,b,c,d,e⟩|⟨a,b⟩
  ·rcases hN with ⟨a',b',c',d',e'⟩|⟨a',b'⟩
   ·refine .inl ⟨Om,b',λh=>h.elim c hpp,λh=>h.elim d' hnp,λz h1 h2=>?_⟩;rcases Nat.lt_trichotomy z p with q|q|q
    ·exact .inl (e z h1 q)
    ·exact .inr q
    ·exact .inl (e' z q h2)
   ·refine .inr ⟨⟨Om,λh=>h.elim c hpp,λz h1 h2=>?_⟩,⟨b'.1,λh=>h.elim b'.2.1 hnp,λz h1=>.inl (b'.2.2 z h1)⟩⟩;rcases Nat.lt_trichotomy z p with q|q|q
    ·exact .inl (e z h1 q)
    ·exact .inr q
    ·exact .inl (a'.2.2 z q h2)
  ·rcases hN with ⟨a',b',c',d',e'⟩|⟨a',b'⟩
   ·refine .inr ⟨⟨a.1,λh=>h.elim a.2.1 hpp,λz h1 h2=>.inl (a.2.2 z h1 h2)⟩,⟨b',λh=>h.elim d' hnp,λz h1=>?_⟩⟩;rcases Nat.lt_trichotomy z p with q|q|q
    ·exact .inl (b.2.2 z q)
    ·exact .inr q
    ·exact .inl (e' z q h1)
   ·exact absurd (a.uniq a') hpp
 refine⟨nx,px,hC,hB,hNl.2.1,hPl.1,hn0,hp0,hnp,hpp,hNl.2.2.2,hPl.2.2.1,?_⟩;refine⟨g.pos,.inl g.root,?_,?_,?_,?_,?_⟩
 ·rintro x (h|h)
  ·exact g.lt x h
  ·omega
 ·rintro x h h0;rcases h with h|h
  ·have h1:x≠p:=λe=>hu (e▸h)
   have h2:x≠px:=λe=>hPl.2.2.1 (e▸h)
   rw[Yd _ _ h1,Yd _ _ h2,Yd _ _ h0];exact g.used x h h0
  ·rw[h,Y0];exact hc
 ·intro x hx h;have h1:x≠p:=λe=>h (.inr e)
  have h2:¬ U x:=λe=>h (.inl e)
  have h0:x≠0:=λe=>h2 (e▸g.root)
  rw[Yd _ _ h1];by_cases e:x=px
  ·subst e;rw[Y0];exact⟨nx,hC,hjoin⟩
  ·rw[Yd _ _ e,Yd _ _ h0];obtain⟨y,hy,hy'⟩:=g.nxt x hx h2;refine⟨y,hy,hring x y h1 (λq=>?_) hy'⟩;subst q;exact e (hy'.inj hP)
 ·intro x hx h;have h1:x≠p:=λe=>h (.inr e)
  have h2:¬ U x:=λe=>h (.inl e)
  by_cases e:x=nx
  ·subst e;rw[Y0];exact⟨px,hB,hjoin⟩
  ·rw[Yd _ _ e];obtain⟨y,hy,hy'⟩:=g.prv x hx h2;refine⟨y,hy,hring y x (λq=>?_) h1 hy'⟩;subst q;exact e (hy'.uniq hN)
 ·rw[Yd _ _ (Ne.symm hpz),Yd _ _ (Ne.symm hp0),Y0];obtain⟨y,hy,hf⟩:=g.head;by_cases e:y=p
  ·subst e;rw[if_pos hy.symm];refine⟨nx,hC,?_⟩;rcases hN with ⟨a',b',c',d',e'⟩|⟨a',b'⟩
   ·refine⟨b',λh=>h.elim d' hnp,λz h1=>?_⟩;rcases Nat.lt_trichotomy z y with q|q|q
    ·exact .inl (hf.2.2 z q)
    ·exact .inr q
    ·exact .inl (e' z q h1)
   ·exact absurd (b'.uniq hf) hnp
  ·rw[if_neg Om];exact⟨y,hy,hf.1,λh=>h.elim hf.2.1 e,λz h1=>.inl (hf.2.2 z h1)⟩
theorem FreeOk.two(g:FreeOk n B C U){p:Nat}(hp:p<n)(hu:¬ U p)(he:B p=C p):∃ y,∀ x,x<n->¬ U x->x=p\/x=y:=by
 obtain⟨y,hC,hN⟩:=g.nxt p hp hu;obtain⟨y',hB,hP⟩:=g.prv p hp hu;obtain rfl:y=y':=Om
 refine⟨y,λx hx hu'=>?_⟩;rcases hN with ⟨a,b,c,d,e⟩|⟨a,b⟩<;>rcases hP with ⟨a',b',c',d',e'⟩|⟨a',b'⟩
 ·omega
 ·rcases Nat.lt_trichotomy x p with q|q|q
  ·exact absurd (b'.2.2 x q) hu'
  ·exact .inl q
  ·rcases Nat.lt_trichotomy x y with r|r|r
   ·exact absurd (e x q r) hu'
   ·exact .inr r
   ·exact absurd (a'.2.2 x r hx) hu'
 ·rcases Nat.lt_trichotomy x p with q|q|q
  ·rcases Nat.lt_trichotomy x y with r|r|r
   ·exact absurd (b.2.2 x r) hu'
   ·exact .inr r
   ·exact absurd (e' x r q) hu'
  ·exact .inl q
  ·exact absurd (a.2.2 x q hx) hu'
 ·rcases Nat.lt_trichotomy x p with q|q|q
  ·exact absurd (b'.2.2 x q) hu'
  ·exact .inl q
  ·exact absurd (a.2.2 x q hx) hu'
theorem FreeOk.expand(g:FreeOk n B C U) :
  ∃ st en:Nat,C 0 = -(st:Int)/\B st = -(en:Int)/\st<n/\en<n/\st≠0/\en≠0/\Rn n U en/\Ss n U st /\
   ∀ B1 C1:F,(∀ x,x<n->B1 x=B x)->(∀ x,x<n->C1 x=C x)->(∀ x,n<=x->x<2*n->B1 x = -((x:Int)-1))->(∀ x,n<=x->x<2*n->C1 x = -((x:Int)+1)) ->
   FreeOk (2*n) (up (up B1 n (-(en:Int))) st (-((2*n:Nat)-1:Int))) (up (up C1 en (-(n:Int))) (2*n-1) (-(st:Int))) U:=by
 obtain⟨st,hst,hf⟩:=g.head;obtain⟨en,hen,hE⟩:=g.prv st hf.1 hf.2.1;have hpos:=g.pos;have h0:st≠0:=λe=>hf.2.1 (e▸g.root)
 have hl:Rn n U en:=by
  rcases hE with ⟨a,b,c,d,e⟩|⟨a,b⟩
  ·exact absurd (hf.2.2 en a) c
  ·exact a
 have h1:en≠0:=λe=>hl.2.1 (e▸g.root)
 have hfree:∀ x,n<=x->¬ U x:=λx hx h=>by have:=g.lt x h;omega
 refine⟨st,en,hst,hen,hf.1,hl.1,h0,h1,hl,hf,λB1 C1 hB hC hB' hC'=>?_⟩;have hF:Ss (2*n) U st:=⟨by have:=hf.1;omega,hf.2.1,hf.2.2⟩;have hL:Rn (2*n) U (2*n-1):=⟨Om,hfree _ Om,λz h1 h2=>Om⟩;have hen1:=hl.1;have hst1:=hf.1;refine⟨Om,g.root,λx h=>by have:=g.lt x h;omega,?_,?_,?_,?_⟩
 ·intro x h hx;have:=g.lt x h;rw[Yd _ _ Om,Yd _ _ (show x≠en from by rintro rfl;exact hl.2.1 h),hC x this];exact g.used x h hx
 ·intro x hx h;by_cases e:x=2*n-1
  ·subst e;rw[Y0];exact⟨st,rfl,.inr ⟨hL,hF⟩⟩
  ·rw[Yd _ _ e];by_cases e':x=en
   ·subst e';rw[Y0];refine⟨n,rfl,.inl ⟨hl.1,Om,h,hfree n (Nl _),λz a b=>hl.2.2 z a b⟩⟩
   ·rw[Yd _ _ e'];rcases Nat.lt_or_ge x n with q|q
    ·rw[hC x q];obtain⟨y,hy,hy'⟩:=g.nxt x q h;refine⟨y,hy,?_⟩;rcases hy' with ⟨a,b,c,d,e⟩|⟨a,b⟩
     ·exact .inl ⟨a,Om,c,d,e⟩
     ·exact absurd (a.uniq hl) e'
    ·rw[hC' x q hx];exact⟨x+1,Om,.inl ⟨Om,Om,h,hfree _ Om,λz a b=>Om⟩⟩
 ·intro x hx h;by_cases e:x=st
  ·subst e;rw[Y0];exact⟨2*n-1,Om,.inr ⟨hL,hF⟩⟩
  ·rw[Yd _ _ e];by_cases e':x=n
   ·subst e';rw[Y0];exact⟨en,rfl,.inl ⟨hl.1,Om,hl.2.1,h,λz a b=>hl.2.2 z a b⟩⟩
   ·rw[Yd _ _ e'];rcases Nat.lt_or_ge x n with q|q
    ·rw[hB x q];obtain⟨y,hy,hy'⟩:=g.prv x q h;refine⟨y,hy,?_⟩;rcases hy' with ⟨a,b,c,d,e2⟩|⟨a,b⟩
     ·exact .inl ⟨a,Om,c,d,e2⟩
     ·exact absurd (b.uniq hf) e
    ·rw[hB' x q hx];exact⟨x-1,Om,.inl ⟨Om,Om,hfree _ Om,h,λz a b=>Om⟩⟩
 ·rw[Yd _ _ Om,Yd _ _ (Ne.symm h1),hC 0 Om];exact⟨st,hst,hF⟩
theorem FreeOk.last_of(g:FreeOk n B C U){f:Nat}(hf:f<n)(hu:¬ U f)(he:C f=C 0):Rn n U f:=by
 obtain⟨y,hy,hN⟩:=g.nxt f hf hu;obtain⟨z,hz,hF⟩:=g.head;obtain rfl:y=z:=Om
 rcases hN with ⟨a,b,c,d,e⟩|⟨a,_⟩
 ·exact absurd (hF.2.2 f a) hu
 ·exact a
def Nxt(n:Nat)(U:Nat->Prop)(f y:Nat):Prop:=f<y/\y<n/\¬ U y/\(y=f+1\/U (y-1))
theorem FreeOk.next_first(g:FreeOk n B C U):∃ y:Nat,C 0 = -(y:Int)/\Nxt n U 0 y:=by
 obtain⟨y,hy,hF⟩:=g.head;have h0:y≠0:=λe=>hF.2.1 (e▸g.root)
 exact⟨y,hy,Om,hF.1,hF.2.1,.inr (hF.2.2 _ Om)⟩
theorem Vq.nxt{f y:Nat}(h:Vq n U f y)(hl:¬ Rn n U f):Nxt n U f y:=by
 rcases h with ⟨a,b,c,d,e⟩|⟨a,_⟩
 ·refine⟨a,b,d,?_⟩;by_cases q:y=f+1
  ·exact .inl q
  ·exact .inr (e _ Om Om)
 ·exact absurd a hl
theorem FreeOk.next_more(g:FreeOk n B C U){f:Nat}(hf:f<n)(hu:¬ U f)(he:C f≠C 0):∃ y:Nat,C f = -(y:Int)/\Nxt n U f y:=by
 obtain⟨y,hy,hN⟩:=g.nxt f hf hu;refine⟨y,hy,hN.nxt λhl=>?_⟩;obtain⟨z,hz,hF⟩:=g.head
 have:y=z:=by
  rcases hN with ⟨a,b,c,d,e⟩|⟨_,b⟩
  ·exact absurd (hl.2.2 y a b) d
  ·exact b.uniq hF
 exact he (by rw[hy,hz,this])
theorem FreeOk.next_grown{n':Nat}{B' C':F}(g:FreeOk n' B' C' U){f:Nat}(hf:f<n)(hu:¬ U f)(hn:n<n')(hlt:∀ x,U x->x<n):∃ y:Nat,C' f = -(y:Int)/\Nxt n' U f y:=by
 obtain⟨y,hy,hN⟩:=g.nxt f Om hu;exact⟨y,hy,hN.nxt λhl=>by have:=hlt _ (hl.2.2 n hf hn);omega⟩
end
end TR
end
section
namespace TR
abbrev Key:=List UInt8×Nat
def hd(k:Key):UInt8:=k.1.headD 0
def strip(c:UInt8)(ks:List Key):List Key:=ks.filterMap λk=>match k.1 with|[]=>none|a::t=>if a=c then some (t,k.2) else none
def Vt(ks:List Key):Option Nat:=(ks.find? λk=>k.1.isEmpty).map (·.2)
inductive Sub (n:Nat) (B C:F) (T:Nat->Prop):Nat->List Key->Prop
 | mk (p:Nat) (ks:List Key) (b:Nat) (hT:T p) (hb:B p=(b:Int)) (h1:1<=b)
   (hch:∀ c:UInt8,(b+c.toNat<n/\C (b+c.toNat)=(p:Int))↔∃ k∈ks,hd k=c)
   (hend:∀ i,Vt ks=some i->B b = -(i:Int))
   (hsub:∀ c:UInt8,c≠0->(∃ k∈ks,hd k=c)->Sub n B C T (b+c.toNat) (strip c ks)) :
   Sub n B C T p ks
theorem Sub.keep{n n':Nat}{B C B' C':F}{T T':Nat->Prop}{p:Nat}{ks:List Key}(h:Sub n B C T p ks)
  (hT:∀ x,T x->T' x)
  (hB:∀ x,T x->B' x=B x)
  (hE:∀ p x,T p->x<n->C x=(p:Int)->B' x=B x)
  (hC:∀ q,T q->∀ x,(x<n'/\C' x=(q:Int))↔(x<n/\C x=(q:Int))):Sub n' B' C' T' p ks:=by
 induction h with
 | mk p ks b hTp hb h1 hch hend hsub ih =>
  refine .mk p ks b (hT p hTp) ((hB p hTp).trans hb) h1 (λc=>(hC p hTp _).trans (hch c)) (λi hi=>?_) (λc h0 hc=>ih c h0 hc)
  have h0:∃ k∈ks,hd k=0:=by
   unfold Vt at hi;obtain⟨k,hk,_⟩:=Option.map_eq_some_iff.1 hi;have:=List.find?_some hk;refine⟨k,List.mem_of_find?_eq_some hk,?_⟩;have h2:k.1=[]:=(by simpa using this);simp[hd,h2]
  have:=(hch 0).2 h0;simp at this;rw[hE p b hTp this.1 this.2];exact hend i hi
structure Hi(p:Nat)(n:Nat)(B C:F)(U:Nat->Prop)(n':Nat)(B' C':F)(U':Nat->Prop):Prop where
 le:n<=n'
 sub:∀ x,U x->U' x
 base:∀ x,U x->x≠p->B' x=B x
 check:∀ x,U x->x≠0->C' x=C x
 fresh:∀ x,U' x->¬ U x->∃ y:Nat,C' x=(y:Int)/\(y=p\/(U' y/\¬ U y))
theorem Hi.step{p q n n1 n2:Nat}{B C B1 C1 B2 C2:F}{U U1 U2:Nat->Prop}(h:Hi p n B C U n1 B1 C1 U1)(k:Hi q n1 B1 C1 U1 n2 B2 C2 U2)(r:U 0)
  (hq:q=p\/(U1 q/\¬ U q)):Hi p n B C U n2 B2 C2 U2:=by
 refine⟨Nt h.le k.le,λx hx=>k.sub x (h.sub x hx),λx hx hp=>?_,λx hx h0=>?_,λx hx hn=>?_⟩
 ·rw[k.base x (h.sub x hx) (λe=>hq.elim (λe'=>hp (e.trans e')) (λe'=>e'.2 (e▸hx))),h.base x hx hp]
 ·rw[k.check x (h.sub x hx) h0,h.check x hx h0]
 ·by_cases h1:U1 x
  ·have h0:x≠0:=λe=>hn (e▸r)
   obtain⟨y,hy,hy'⟩:=h.fresh x h1 hn;refine⟨y,(k.check x h1 h0).trans hy,hy'.imp id (λa=>⟨k.sub y a.1,a.2⟩)⟩
  ·obtain⟨y,hy,hy'⟩:=k.fresh x hx h1;refine⟨y,hy,?_⟩;rcases hy' with e|⟨a,b⟩
   ·subst e;rcases hq with e|e
    ·exact .inl e
    ·exact .inr ⟨k.sub y e.1,e.2⟩
   ·exact .inr ⟨a,λh'=>b (h.sub y h')⟩
theorem Hi.checks{p n n':Nat}{B C B' C':F}{U U':Nat->Prop}(h:Hi p n B C U n' B' C' U')(g:FreeOk n B C U)(g':FreeOk n' B' C' U'){q:Nat}(hq:U q)(hp:q≠p)(x:Nat) :
  (x<n'/\C' x=(q:Int))↔(x<n/\C x=(q:Int)):=by
 have hneg:∀ {n:Nat} {B C:F} {U:Nat->Prop},FreeOk n B C U->∀ x,x<n->(x=0\/¬ U x)->C x=(q:Int)->False:=by
  intro n B C U g x hx h hc;rcases h with h|h
  ·subst h;obtain⟨y,hy,hf⟩:=g.head;have:y≠0:=λe=>hf.2.1 (e▸g.root)
   omega
  ·have h0:x≠0:=λe=>h (e▸g.root)
   have:=(g.free_iff hx h0).2 h;omega
 constructor
 ·rintro⟨hx,hc⟩;by_cases h0:x=0
  ·exact (hneg g' x hx (.inl h0) hc).elim
  by_cases hu:U x
  ·rw[h.check x hu h0]at hc;exact⟨g.lt x hu,hc⟩
  ·by_cases hu':U' x
   ·obtain⟨y,hy,hy'⟩:=h.fresh x hu' hu;have e:y=q:=Om;subst e;rcases hy' with e|e
    ·exact (hp e).elim
    ·exact (e.2 hq).elim
   ·exact (hneg g' x hx (.inr hu') hc).elim
 ·rintro⟨hx,hc⟩;by_cases h0:x=0
  ·exact (hneg g x hx (.inl h0) hc).elim
  by_cases hu:U x
  ·rw[<- h.check x hu h0]at hc;exact⟨Nat.lt_of_lt_of_le hx h.le,hc⟩
  ·exact (hneg g x hx (.inr hu) hc).elim
def Few(U:Nat->Prop)(K:Nat):Prop:=∃ L:List Nat,L.length<=K/\∀ x,U x->x∈L
theorem Ii:∀ (n:Nat) (L:List Nat),L.length<n->∃ x,x<n/\x ∉ L
 | 0,L,h=>by omega
 | n+1,L,h=>by
  by_cases hn:n∈L
  ·obtain⟨x,hx,hl⟩:=Ii n (L.erase n) (by rw[List.length_erase_of_mem hn];have:=List.length_pos_of_mem hn;omega);exact⟨x,Om,λhm=>hl ((List.mem_erase_of_ne Om).2 hm)⟩
  ·exact⟨n,Om,hn⟩
theorem Few.mono{U:Nat->Prop}{K K':Nat}(h:Few U K)(hk:K<=K'):Few U K':=by
 obtain⟨L,hl,hm⟩:=h;exact⟨L,Om,hm⟩
theorem FreeOk.ne_of_few{n:Nat}{B C:F}{U:Nat->Prop}(g:FreeOk n B C U){K p:Nat}(h:Few U K)(hk:K+3<=n)(hp:p<n)(hu:¬ U p):B p≠C p:=by
 intro e;obtain⟨y,hy⟩:=g.two hp hu e;obtain⟨L,hl,hm⟩:=h;obtain⟨x,hx,hxl⟩:=Ii n (p::y::L) (by simp;omega);simp only[List.mem_cons,not_or]at hxl;rcases hy x hx (λh=>hxl.2.2 (hm x h)) with h|h
 ·exact hxl.1 h
 ·exact hxl.2.1 h
def V3:List Key->List UInt8->Nat->List (Nat×Nat)
 | _,[],_=>[]
 | ks,c::t,i=>if c=0 then [] else if (strip c ks)=[] then [] else ((Vt (strip c ks)).map λe=>(e,i+1)).toList++V3 (strip c ks) t (i+1)
theorem Nk{c:UInt8}{ks:List Key}(hc:c≠0):strip c ks≠[]↔∃ k∈ks,hd k=c:=by
 unfold strip;constructor
 ·intro h;obtain⟨x,hx⟩:=List.exists_mem_of_ne_nil _ h;obtain⟨k,hk,hx⟩:=List.mem_filterMap.1 hx;refine⟨k,hk,?_⟩;unfold hd
  split at hx
  ·cases hx
  ·rename_i a t e
   split at hx
   ·rename_i ha;rw[e,<- ha];rfl
   ·cases hx
 ·rintro⟨k,hk,h⟩ e;have:∀ x,x ∉ List.filterMap (λk:Key=>match k.1 with|[]=>none|a::t=>if a=c then some (t,k.2) else none) ks:=by rw[e];simp
  unfold hd at h;obtain⟨s,i⟩:=k
  match s,h with
  | [],h=>exact hc h.symm
  | a::t,h =>
   have h':a=c:=h;subst h';exact this (t,i) (List.mem_filterMap.2 ⟨_,hk,by simp⟩)
theorem Qm{ks:List Key}:(∃ i,Vt ks=some i)↔∃ k∈ks,k.1=[]:=by
 unfold Vt;constructor
 ·rintro⟨i,h⟩;obtain⟨k,hk,_⟩:=Option.map_eq_some_iff.1 h;exact⟨k,List.mem_of_find?_eq_some hk,by simpa using List.find?_some hk⟩
 ·rintro⟨k,hk,h⟩
  cases e:ks.find? (λk=>k.1.isEmpty) with
  | some x=>exact⟨x.2,by simp⟩
  | none =>
   have:=List.find?_eq_none.1 e k hk;simp[h]at this
end TR
end
namespace Go.Proofs.YtlfoalomaofejaaGreatDoor
section
open Go.RowKit TR
def Xe(n:Nat)(B C:F):List Value:=(List.range n).flatMap λi=>[.int .i32 (B i),.int .i32 (C i)]
theorem Zt(n:Nat)(B C:F):(Xe n B C).length=n*2:=by
 unfold Xe
 induction n with
 | zero=>rfl
 | succ n ih=>rw[List.range_succ,List.flatMap_append,List.length_append,ih];simp;omega
theorem Ur(n:Nat)(B C:F)(i:Nat)(hi:i<n):(Xe n B C)[i*2]?=some (.int .i32 (B i))/\(Xe n B C)[i*2+1]?=some (.int .i32 (C i)):=by
 induction n with
 | zero=>omega
 | succ n ih =>
  have e:Xe (n+1) B C=Xe n B C++[.int .i32 (B n),.int .i32 (C n)]:=by unfold Xe;rw[List.range_succ,List.flatMap_append];rfl
  rw[e];by_cases h:i<n
  ·rw[List.getElem?_append_left (by rw[Zt];omega),List.getElem?_append_left (by rw[Zt];omega)];exact ih h
  ·obtain rfl:i=n:=Om
   rw[List.getElem?_append_right (by rw[Zt];omega),List.getElem?_append_right (by rw[Zt];omega),Zt];simp
structure DA(w:World)(dp g n:Nat)(B C:F):Prop where
 ptr:w.heap[dp]?=some (.cells #[.slice (some ⟨g,0,none⟩) n n] 217 (0,0))
 arr:∃ cs:Array Value,w.heap[g]?=some (.cells cs 396 (0,0))/\cs.size=n*2/\∀ i,i<n->cs[i*2]?=some (.int .i32 (B i))/\cs[i*2+1]?=some (.int .i32 (C i))
section
variable{w w':World}{dp g n:Nat}{B C:F}
theorem DA.ne(h:DA w dp g n B C):dp≠g:=by
 rintro rfl;obtain⟨cs,h1,_⟩:=h.arr;rw[h.ptr]at h1;injection h1 with h1
 injection h1 with _ h1
 cases h1
theorem DA.pc(h:DA w dp g n B C):w.cell? ⟨dp,0,none⟩=some (.slice (some ⟨g,0,none⟩) n n):=by simp[World.cell?,h.ptr]
theorem DA.pf(h:DA w dp g n B C)(o:Nat):w.frozen? ⟨dp,o,none⟩=false:=by simp[World.frozen?,h.ptr]
theorem DA.b(h:DA w dp g n B C)(i:Nat)(hi:i<n):w.cell? ⟨g,i*2,none⟩=some (.int .i32 (B i)):=by
 obtain⟨cs,h1,_,h2⟩:=h.arr;simp[World.cell?,h1,(h2 i hi).1]
theorem DA.c(h:DA w dp g n B C)(i:Nat)(hi:i<n):w.cell? ⟨g,i*2+1,none⟩=some (.int .i32 (C i)):=by
 obtain⟨cs,h1,_,h2⟩:=h.arr;simp[World.cell?,h1,(h2 i hi).2]
theorem DA.gf(h:DA w dp g n B C)(o:Nat):w.frozen? ⟨g,o,none⟩=false:=by
 obtain⟨cs,h1,_,h2⟩:=h.arr;simp[World.frozen?,h1]
theorem DA.lt(h:DA w dp g n B C):dp<w.heap.size/\g<w.heap.size:=by
 obtain⟨cs,h1,_⟩:=h.arr;exact⟨(Gs1.1 h.ptr).1,(Gs1.1 h1).1⟩
theorem DA.keep{S:Nat->Prop}(h:DA w dp g n B C)(f:Fr S w w')(h1:¬ S dp)(h2:¬ S g):DA w' dp g n B C:=by
 obtain⟨cs,a,b⟩:=h.arr;exact⟨f.heap h.ptr h1,cs,f.heap a h2,b⟩
theorem DA.drewN(h:DA w dp g n B C)(k:Nat):DA (w.drewN k) dp g n B C:=⟨h.ptr,h.arr⟩
theorem DA.drew(h:DA w dp g n B C):DA w.drew dp g n B C:=⟨h.ptr,h.arr⟩
theorem DA.congr(h:DA w dp g n B C){B' C':F}(hb:∀ i,i<n->B' i=B i)(hc:∀ i,i<n->C' i=C i):DA w dp g n B' C':=by
 obtain⟨cs,h1,h2,h3⟩:=h.arr;exact⟨h.ptr,cs,h1,h2,λi hi=>by rw[hb i hi,hc i hi];exact h3 i hi⟩
theorem DA.setB(h:DA w dp g n B C)(i:Nat)(v:Int):DA (w.setCell ⟨g,i*2,none⟩ (.int .i32 v)) dp g n (up B i v) C:=by
 obtain⟨cs,h1,h2,h3⟩:=h.arr;refine⟨by rw[Below.heap_setCell _ _ _ _ h.ne];exact h.ptr,cs.setIfInBounds (i*2) (.int .i32 v),?_,by simpa using h2,λj hj=>?_⟩
 ·simp[World.setCell,Array.getElem?_modify,h1]
 ·simp only[Array.getElem?_setIfInBounds];by_cases e:j=i
  ·subst e;rw[if_pos rfl,if_pos Om,if_neg Om,Y0];exact⟨rfl,(h3 j hj).2⟩
  ·rw[if_neg Om,if_neg Om,Yd _ _ e];exact h3 j hj
theorem DA.setC(h:DA w dp g n B C)(i:Nat)(v:Int):DA (w.setCell ⟨g,i*2+1,none⟩ (.int .i32 v)) dp g n B (up C i v):=by
 obtain⟨cs,h1,h2,h3⟩:=h.arr;refine⟨by rw[Below.heap_setCell _ _ _ _ h.ne];exact h.ptr,cs.setIfInBounds (i*2+1) (.int .i32 v),?_,by simpa using h2,λj hj=>?_⟩
 ·simp[World.setCell,Array.getElem?_modify,h1]
 ·simp only[Array.getElem?_setIfInBounds];by_cases e:j=i
  ·subst e;rw[if_neg Om,if_pos rfl,if_pos Om,Y0];exact⟨(h3 j hj).1,rfl⟩
  ·rw[if_neg Om,if_neg Om,Yd _ _ e];exact h3 j hj
theorem DA.pcs(h:DA w dp g n B C)(o:Nat)(v:Value):(w.setCell ⟨g,o,none⟩ v).cell? ⟨dp,0,none⟩=some (.slice (some ⟨g,0,none⟩) n n):=by
 rw[World.cell?_setCell_other _ _ _ _ (by intro e;injection e with e;exact h.ne e.symm)];exact h.pc
theorem DA.bsc(h:DA w dp g n B C)(i:Nat)(hi:i<n)(v:Value):(w.setCell ⟨g,i*2,none⟩ v).cell? ⟨g,i*2+1,none⟩=some (.int .i32 (C i)):=by
 rw[World.cell?_setCell_other _ _ _ _ (by intro e;injection e with _ e;omega)];exact h.c i hi
theorem DA.repoint{q:Nat}(h:DA w q g n B C){x:Value}(hp:w.heap[dp]?=some (.cells #[x] 217 (0,0))):DA (w.setCell ⟨dp,0,none⟩ (.slice (some ⟨g,0,none⟩) n n)) dp g n B C:=by
 obtain⟨cs,h1,h2⟩:=h.arr
 have hne:g≠dp:=by
  rintro rfl;rw[hp]at h1;injection h1 with h1
  injection h1 with _ h1
  cases h1
 refine⟨?_,cs,by rw[Below.heap_setCell _ _ _ _ hne];exact h1,h2⟩;simp[World.setCell,Array.getElem?_modify,hp]
end
def two(a b:Nat):Nat->Prop:=λk=>k=a\/k=b
theorem Rz{w0 w:World}{dp g:Nat}(f:Fr (two dp g) w0 w)(o:Nat)(v:Value):Fr (two dp g) w0 (w.setCell ⟨g,o,none⟩ v):=f.setCell _ _ (λ_=>.inr rfl)
end
section
open Go.RowKit TR
theorem P9{P:Program}(w:World)(dT sT ty elem:TypeId)(g dLen dCap k:Nat)(a:Addr)(sLen sCap:Nat)(cur:Array Value)(t:TypeId)(cs:List Value)
  (hu:P.underlying dT=some (.slice elem)) (hs:(P.info? elem).map (·.size)=some k)
  (hg:w.heap[g]?=some (.cells cur t (0,0))) (hle:sLen<=dLen) (hn:cs.length=sLen*k)
  (hsrc:∀ j v,cs[j]?=some v->w.cell? (a.add j)=some v) (hfit:cs.length<=cur.size) (h1:∀ v∈cs,v.oneCell'=true) :
  (Builtin.copy_ #[dT,sT] ty #[.slice (some ⟨g,0,none⟩) dLen dCap,.slice (some a) sLen sCap]).run P w =
   .ok (goInt sLen) (w.setRow g (cs++cur.toList.drop cs.length).toArray):=by
 have hl:=run_loadCells_list (P:=P) w a cs hsrc;have hst:=run_storeCells_at P g 0 t cs 0 cur w hg (by simpa using hfit) h1;have hm:Nat.min sLen dLen=sLen:=Nat.min_eq_left hle
 cases hq:P.info? elem with
 | none=>simp[hq]at hs
 | some i =>
  have hi:i.size=k:=by simpa [hq] using hs
  simp only[Nat.zero_add,List.take_zero,List.nil_append]at hst;simp[Builtin.copy_,run_underlying hu,Builtin.lenOf,Builtin.firstCells,sizeOf,typeInfo,hq,hi,hm,<- hn,hl,hst]
theorem Zc1{w:World}{dp g n:Nat}{B C:F}(h:DA w dp g n B C):∀ j v,(Xe n B C)[j]?=some v->w.cell? ((⟨g,0,none⟩:Addr).add j)=some v:=by
 intro j v hv
 have hj:j<n*2:=by
  rw[<- Zt n B C];exact (Gl.1 hv).1
 have ha:(⟨g,0,none⟩:Addr).add j=⟨g,j,none⟩:=by unfold Addr.add;split<;>simp_all
 rw[ha];rcases Nat.mod_two_eq_zero_or_one j with e|e
 ·obtain⟨i,rfl⟩:∃ i,j=i*2:=⟨j / 2,Om⟩;rw[(Ur n B C i Om).1]at hv;rw[h.b i Om];exact hv
 ·obtain⟨i,rfl⟩:∃ i,j=i*2+1:=⟨j / 2,Om⟩;rw[(Ur n B C i Om).2]at hv;rw[h.c i Om];exact hv
theorem Kb(n:Nat)(B C:F):∀ v∈Xe n B C,v.oneCell'=true:=by
 intro v hv;obtain⟨i,_,h⟩:=List.mem_flatMap.1 hv;simp at h;rcases h with rfl|rfl<;>rfl
theorem copied{w:World}{n q g' m:Nat}{B C B' C':F}(hn:n<=m){cur:Array Value}
  (ptr:w.heap[q]?=some (.cells #[.slice (some ⟨g',0,none⟩) m m] 217 (0,0)))
  (hc:w.heap[g']?=some (.cells cur 396 (0,0))) (hs:cur.size=m*2) (hv:∀ i,i<m->cur[i*2]?=some (.int .i32 (B' i))/\cur[i*2+1]?=some (.int .i32 (C' i))) :
  DA (w.setRow g' (Xe n B C++cur.toList.drop (Xe n B C).length).toArray) q g' m (λi=>if i<n then B i else B' i) (λi=>if i<n then C i else C' i):=by
 have hne:q≠g':=by
  rintro rfl;rw[ptr]at hc;injection hc with hc
  injection hc with _ hc
  cases hc
 refine⟨by rw[setRow_other _ _ _ _ hne];exact ptr,_,setRow_heap w g' cur _ _ (0,0) hc,?_,λi hi=>?_⟩
 ·rw[List.size_toArray,List.length_append,List.length_drop,Zt,Array.length_toList,hs];omega
 ·by_cases e:i<n
  ·simp only[if_pos e,List.getElem?_toArray];rw[List.getElem?_append_left (by rw[Zt];omega),List.getElem?_append_left (by rw[Zt];omega)];exact Ur n B C i e
  ·simp only[if_neg e,List.getElem?_toArray];rw[List.getElem?_append_right (by rw[Zt];omega),List.getElem?_append_right (by rw[Zt];omega),List.getElem?_drop,List.getElem?_drop,Zt,(Om:n*2+(i*2-n*2)=i*2),(Om:n*2+(i*2+1-n*2)=i*2+1),Array.getElem?_toList,Array.getElem?_toList];exact hv i hi
theorem Zmp:(Tryz.prog.info? 396).map (λi=>(i.zero,i.size,i.bytes))=some (some (.agg #[.int .i32 0,.int .i32 0]),2,8):=Kr
theorem Zhg:(Tryz.prog.info? 396).map (·.size)=some 2:=Kr
theorem De(m:Nat)(hm:m<=1073741824):∀ W:World,(Instr.makeSlice 217 (.int .i64 (m:Int)) (.int .i64 (m:Int))).run Tryz.prog W =
  .ok (.slice (some ⟨W.heap.size,0,none⟩) m m) (W.alloc (.cells (madeCells #[.int .i32 0,.int .i32 0] (m*2)) 396)):=by
 intro W;obtain⟨i,hi,hz,hs,hb⟩:=info_parts Zmp;have:=run_make (P:=Tryz.prog) W 217 396 i _ Tryz.underlying217 hi hz .i64 .i64 m m Om Om (by rw[hb];omega) Om;rw[hs]at this;simpa [Value.cells] using this
def Zjy(w:World)(dp g n:Nat)(B C:F)(i:Nat)(wr:World):Prop :=
 ∃ Bi Ci,DA wr w.heap.size (w.heap.size+1) (n*2) Bi Ci/\DA wr dp g n B C/\Zf w wr/\(∀ x,x<n->Bi x=B x/\Ci x=C x)/\∀ x,n<=x->x<i->Bi x = -((x:Int)-1)/\Ci x = -((x:Int)+1)
theorem Ih(w:World)(dp g n:Nat)(B C:F)(U:Nat->Prop)(h:DA w dp g n B C)(gd:FreeOk n B C U)(hn:n<=268435456) :
  Calls Tryz.prog 291 #[.pointer (some ⟨dp,0,none⟩)] w λe w'=>e=.returned (.tuple #[])/\∃ g' B' C',w.heap.size<=g'/\DA w' dp g' (2*n) B' C'/\FreeOk (2*n) B' C' U /\
   Fr (λk=>k=dp) w w'/\∀ x,U x->B' x=B x/\(x≠0->C' x=C x):=by
 have p0:=h.pc;have f0:=h.pf 0;have hpos:=gd.pos
 have hmk:∀ W:World,(Instr.makeSlice 217 (.int .i64 ((n:Int)*2)) (.int .i64 ((n:Int)*2))).run Tryz.prog W =
   .ok (.slice (some ⟨W.heap.size,0,none⟩) (n*2) (n*2)) (W.alloc (.cells (madeCells #[.int .i32 0,.int .i32 0] (n*2*2)) 396)):=by
  intro W;have:=De (n*2) Om W;rwa[(Om:((n*2:Nat):Int)=(n:Int)*2)]at this
 have HH:=Hd h;have HG:=Hd gd;clear h gd;go_enter Tryz.func291,Tryz.ntmps291
 go_wp2_with fail
 generalize hW:World.alloc _ _=W;have hE:Zf w W:=by rw[<- hW];exact ((Fl _).alloc _).alloc _
 have D1:DA W dp g n B C:=HH.out.keep hE id id
 have D2:DA W w.heap.size (w.heap.size+1) (n*2) (λ_=>0) (λ_=>0):=by
  refine⟨by rw[<- hW,alloc_old _ _ (by rw[Za];omega),alloc_at],madeCells #[.int .i32 0,.int .i32 0] (n*2*2),by rw[<- hW];exact alloc_at' _ _ (by rw[Za]),by simp[size_madeCells],λi hi=>?_⟩;have h0:i*2<n*2*2:=Om
  have h1:i*2+1<n*2*2:=Om
  have e0:i*2 % 2=0:=Om
  have e1:(i*2+1) % 2=1:=Om
  simp[madeCells,h0,h1,e0,e1]
 have HE:=Hd hE;clear hW hE;have q1:=D2.pc;have q0:=D1.pc;refine Ud 6 Kr Kr ?_;simp only[List.take_succ_cons,List.take_zero,List.drop_succ_cons,List.drop_zero]
 repeat still_step
 refine wpStill_nil ?_;obtain⟨cur,hcur,hsz,hcells⟩:=D2.arr
 have hcp:∀ ty,(Builtin.copy_ #[217,217] ty #[.slice (some ⟨w.heap.size+1,0,none⟩) (n*2) (n*2),.slice (some ⟨g,0,none⟩) n n]).run Tryz.prog W.drew=_:=λty =>
  P9 W.drew _ _ ty _ _ _ _ 2 ⟨g,0,none⟩ n n cur _ (Xe n B C) Tryz.underlying217 Zhg hcur Om (Zt _ _ _) (Zc1 D1.drew) (by rw[Zt];omega) (Kb _ _ _)
 have D3:=copied (B:=B) (C:=C) ((Om:n<=n*2)) D2.drew.ptr hcur hsz hcells
 have HI:Zjy w dp g n B C n (W.drew.setRow (w.heap.size+1) (Xe n B C++cur.toList.drop (Xe n B C).length).toArray) :=
  ⟨_,_,D3,HH.out.keep (HE.out.drew.setRow _ _ (λh=>Om)) id id,HE.out.drew.setRow _ _ (λh=>Om),λx hx=>⟨if_pos hx,if_pos hx⟩,λx h1 h2=>Om⟩
 go_wp2_with fail
 generalize World.setRow _ _ _=W1 at HI⊢;clear D1 D2 HE q1 q0 hcur hsz hcells hcp D3 p0 f0 hmk;have HI2:=Hd HI;clear HI
 go_loopw [5] (λv wr=>∃ i:Nat,n<=i/\i<=n*2/\v=.int .i64 i/\Hid (Zjy w dp g n B C i wr)) (λv _=>n*2-(intOf v).toNat)
 case atStart=>exact⟨n,Nl _,Om,rfl,HI2⟩
 case round =>
  obtain⟨i,hi1,hi2,rfl,HR⟩:=hrel;obtain⟨Bi,Ci,D,D0,E,S1,S2⟩:=HR.out;by_cases hlt:i<n*2
  ·have q1:=D.pc;have q2:=D.pcs (i*2);have b1:=D.b i hlt;have c1:=D.bsc i hlt;have f1:=D.gf (i*2);have f2:=D.gf (i*2+1);have HS:=Hd (Ai1 D (Ai1 D0 (Ai1 E (Ai1 S1 S2))));clear D D0 E S1 S2 HR
   go_wp2
   go_roundw
   case rel =>
    obtain⟨D,D0,E,S1,S2⟩:=HS.out;refine⟨i+1,Om,Om,by go_num,(show Hid _ from⟨_,_,(D.setB i _).setC i _,D0.keep ((Fr.refl (λk=>k=w.heap.size+1) _).setCell _ _ (λ_=>rfl) |>.setCell _ _ (λ_=>rfl)) ?_ ?_,(E.setCell _ _ (λh=>absurd h (Nat.not_lt.2 (Nat.le_succ _)))).setCell _ _ (λh=>absurd h (Nat.not_lt.2 (Nat.le_succ _))),λx hx=>?_,λx h1 h2=>?_⟩)⟩
    ·have:=(HH.out.lt).1;omega
    ·have:=(HH.out.lt).2;omega
    ·rw[Yd _ _ Om,Yd _ _ Om];exact S1 x hx
    ·by_cases e:x=i
     ·subst e;rw[Y0,Y0];exact⟨rfl,rfl⟩
     ·rw[Yd _ _ e,Yd _ _ e];exact S2 x h1 Om
   case measure=>simp[intOf];omega
  ·obtain rfl:i=n*2:=Om
   obtain⟨st,en,hst,hen,hs1,hs2,hs3,hs4,hl,hf,hX⟩:=HG.out.expand;have q1:=D.pc;have p0:=D0.pc;have pf:=D0.pf 0;have c0:wr.cell? ⟨g,1,none⟩=some (.int .i32 (-(st:Int))):=by rw[<- hst];exact D0.c 0 Om
   have b1:wr.cell? ⟨w.heap.size+1,st*2,none⟩=some (.int .i32 (-(en:Int))):=by rw[<- hen,<- (S1 st hs1).1];exact D.b st Om
   have b2:=D.b n Om;have b3:=D.c en Om;have b4:=D.c (n*2-1) Om;have f1:=D.gf;have HS:=Hd (Ai1 D (Ai1 D0 (Ai1 E (Ai1 S1 S2))));have HX:=Hd hX;have hUs:¬ U st:=hf.2.1;have hUe:¬ U en:=hl.2.1;have HU:=Hd (Ai1 hUs hUe);clear D D0 E S1 S2 HR hst hen hl hf hX hUs hUe
   go_wp2
   go_end0
   obtain⟨D,D0,E,S1,S2⟩:=HS.out;have hd1:dp≠w.heap.size+1:=by have:=(HH.out.lt).1;omega
   have K:Fr (λk=>k=w.heap.size+1) wr _:=(((((Fr.refl (λk=>k=w.heap.size+1) wr).setCell ⟨w.heap.size+1,n*2,none⟩ (.int .i32 (-(en:Int))) (λ_=>rfl)).setCell ⟨w.heap.size+1,st*2,none⟩ (.int .i32 (-((n:Int)*2-1))) (λ_=>rfl)).setCell ⟨w.heap.size+1,en*2+1,none⟩ (.int .i32 (-(n:Int))) (λ_=>rfl)).setCell ⟨w.heap.size+1,(n*2-1)*2+1,none⟩ (.int .i32 (-(st:Int))) (λ_=>rfl));have D4:=((((D.setB n (-(en:Int))).setB st (-((n:Int)*2-1))).setC en (-(n:Int))).setC (n*2-1) (-(st:Int))).repoint (K.heap D0.ptr hd1);have G4:=HX.out Bi Ci (λx hx=>(S1 x hx).1) (λx hx=>(S1 x hx).2) (λx h1 h2=>(S2 x h1 Om).1) (λx h1 h2=>(S2 x h1 Om).2);have e2:2*n=n*2:=Nat.mul_comm _ _;rw[e2]at G4⊢;have e3:-(((n*2:Nat):Int)-1) = -((n:Int)*2-1):=Om;rw[e3]at G4;refine⟨rfl,_,_,_,Nat.le_succ _,D4,G4,?_,λx hx=>?_⟩
   ·have nl:∀ {p:Prop},w.heap.size+1<w.heap.size->p:=λh=>absurd h (Nat.not_lt.2 (Nat.le_succ _))
    exact (((((E.mono (S':=λk=>k=dp) (λ_ _ h=>h.elim)).setCell _ _ nl).setCell _ _ nl).setCell _ _ nl).setCell _ _ nl).setCell _ _ (λ_=>rfl)
   ·have hl:=HG.out.lt x hx;have h1:x≠st:=by rintro rfl;exact HU.out.1 hx
    have h2:x≠en:=by rintro rfl;exact HU.out.2 hx
    rw[Yd _ _ h1,Yd _ _ Om,Yd _ _ Om,Yd _ _ h2];exact⟨(S1 x hl).1,λ_=>(S1 x hl).2⟩
end
section
open Go.RowKit TR
def Zmc(n p:Nat)(c:Int)(B C:F)(U:Nat->Prop)(B' C':F):Prop :=
 FreeOk n B' C' (λx=>U x\/x=p)/\C' p=c/\∀ x,U x->B' x=B x/\(x≠0->C' x=C x)
theorem Nm(w:World)(dp g n p c:Nat)(B C:F)(U:Nat->Prop)(h:DA w dp g n B C)(gd:FreeOk n B C U)(hn:n<=536870912)(hp:p<n)(hu:¬ U p)(hc:c<n)(hne:(B p==C p)=false) :
  Calls Tryz.prog 293 #[.pointer (some ⟨dp,0,none⟩),.int .i64 p,.int .i64 c] w λe w'=>e=.returned (.tuple #[])/\Fr (two dp g) w w'/\∃ B' C',DA w' dp g n B' C'/\Zmc n p c B C U B' C':=by
 have hpos:=gd.pos;have hpos':0<n:=Om
 obtain⟨nx,px,hC,hB,hn1,hp1,hn0,hp0,hnp,hpp,hnu,hpu,hR⟩:=gd.remove hp hu (by simpa using hne) (c:=c) Om;have HR:=Hd hR;have b1:=h.b p hp;have c1:=h.c p hp;have c0:w.cell? ⟨g,1,none⟩=some (.int .i32 (C 0)):=h.c 0 Om;have p0:=h.pc;have hne':(-(px:Int) == -(nx:Int))=false:=by rw[<- hC,<- hB];exact hne
 rw[hB]at b1;rw[hC]at c1;obtain⟨z0,hz0,hzf⟩:=gd.head;have hz1:=hzf.1;rw[hz0]at c0;have HH:=Hd h;have HE:=Hd (Ai1 hC (Ai1 hB hz0));have H5:=Hd (Ai1 hnu (Ai1 hpu gd.root));clear h hR hne hC hB hz0 hzf hnu hpu gd;by_cases hd:p=z0
 case' pos =>
  subst hd;go_enter Tryz.func293,Tryz.ntmps293
  go_wp2_with fail
  go_quiet (fail)
  go_wp2_with fail
  have D1:=HH.out.drewN nq;have F1:=(Fr.refl (two dp g) w).drewN nq;generalize w.drewN nq=w1 at D1 F1⊢;have q0:=D1.pc;have q1:=D1.c p hp;have q2:=D1.c 0 Om;have q3:=D1.gf 1;rw[HE.out.1]at q1;simp only[Nat.zero_mul,Nat.zero_add]at q2;have HD:=Hd (Ai1 D1 F1);clear D1 F1 b1 c1 p0 c0;refine Ud 12 Kr Kr ?_;simp only[List.take_succ_cons,List.take_zero,List.drop_succ_cons,List.drop_zero]
  repeat still_step
  refine wpStill_nil ?_;go_wp2_with fail
  clear q0 q1 q2 q3;obtain⟨D1,F1⟩:=HD.out;have D2:=(D1.setC 0 (-(nx:Int))).drew;have F2:=(Rz F1 1 (.int .i32 (-(nx:Int)))).drew;simp only[Nat.zero_mul,Nat.zero_add]at D2;clear D1 F1 HD;generalize (w1.setCell ⟨g,1,none⟩ (.int .i32 (-(nx:Int)))).drew=w2 at D2 F2⊢;obtain⟨X,hx⟩:∃ X,X = -(nx:Int):=⟨_,rfl⟩;have HX:Hid (X=if -(p:Int)=C 0 then C p else C 0):=by show _=_;rw[if_pos HE.out.2.2.symm];exact hx.trans HE.out.1.symm
  rw[<- hx]at D2;clear hx
 case' neg =>
  have hdz:(-(p:Int) == -(z0:Int))=false:=by simp;omega
  go_enter Tryz.func293,Tryz.ntmps293
  go_wp2_with fail
  go_quiet (fail)
  go_wp2_with fail
  have D1:=HH.out.drewN nq;have F2:=(Fr.refl (two dp g) w).drewN nq;have D2:=D1.congr (B':=B) (C':=up C 0 (C 0)) (λ_ _=>rfl) (λi _=>by by_cases e:i=0<;>simp[up,e]);clear D1 b1 c1 p0 c0 hdz;generalize w.drewN nq=w2 at D2 F2⊢;obtain⟨X,hx⟩:∃ X,X=C 0:=⟨_,rfl⟩;have HX:Hid (X=if -(p:Int)=C 0 then C p else C 0):=by show _=_;rw[if_neg (by rw[HE.out.2.2];omega)];exact hx
  rw[<- hx]at D2;clear hx
 all_goals
  have CC:up C 0 X p = -(nx:Int):=by rw[Yd _ _ (by rintro rfl;exact hu H5.out.2.2)];exact HE.out.1
  have D3:=(D2.setB nx (-(px:Int))).drew;have F3:=(Rz F2 (nx*2) (.int .i32 (-(px:Int)))).drew;have r0:=D2.pc;have r1:=D2.b p hp;have r2:=D2.b nx hn1;have r3:=D2.gf (nx*2);rw[HE.out.2.1]at r1;have H3:=Hd (Ai1 D3 F3);clear D2 F2 D3 F3;refine Ud 13 Kr Kr ?_;simp only[List.take_succ_cons,List.take_zero,List.drop_succ_cons,List.drop_zero]
  repeat still_step
  refine wpStill_nil ?_;go_wp2_with fail
  clear r0 r1 r2 r3;obtain⟨D3,F3⟩:=H3.out;clear H3;generalize (w2.setCell ⟨g,nx*2,none⟩ (.int .i32 (-(px:Int)))).drew=w3 at D3 F3⊢;have D4:=(D3.setC px (-(nx:Int))).drew;have F4:=(Rz F3 (px*2+1) (.int .i32 (-(nx:Int)))).drew;have r0:=D3.pc;have r1:=D3.c p hp;have r2:=D3.c px hp1;have r3:=D3.gf (px*2+1);have r4:=D4.pc;have r5:=D4.c p hp;have r6:=D4.gf (p*2+1);rw[CC]at r1;have H4:=Hd (Ai1 D4 F4);clear D4 F4 D3 F3 CC;refine Ud 13 Kr Kr ?_;simp only[List.take_succ_cons,List.take_zero,List.drop_succ_cons,List.drop_zero]
  repeat still_step
  refine wpStill_nil ?_;go_wp2_with fail
  go_end0
  have D5:=(H4.out.1).setC p (c:Int);have F5:=Rz H4.out.2 (p*2+1) (.int .i32 (c:Int));have hp0':p≠0:=by rintro rfl;exact hu H5.out.2.2
  have hr:=HR.out;have hl:=H5.out;rw[<- HX.out,HE.out.1,HE.out.2.1]at hr;refine⟨rfl,F5,_,_,D5,?_,Y0 _ _ _,λx hx=>⟨?_,λh0=>?_⟩⟩
  ·exact hr
  ·exact Yd _ _ (by rintro rfl;exact hl.1 hx)
  ·rw[Yd _ _ (by rintro rfl;exact hu hx),Yd _ _ (by rintro rfl;exact hl.2.1 hx),Yd _ _ h0]
theorem Eo(w:World)(dp:Nat)(b:Int) :
  Calls Tryz.prog 292 #[.pointer (some ⟨dp,0,none⟩),.int .i64 0,.int .i64 b] w λe w'=>e=.returned (.tuple #[])/\w=w':=by
 go_enter Tryz.func292,Tryz.ntmps292
 go_wp2
 exact bodyPost_ret (results_none rfl _ _ _) rfl ⟨rfl,rfl⟩
theorem Bs(w:World)(dp g n p b:Nat)(B C:F)(h:DA w dp g n B C)(hp:p<n)(hp0:p≠0)(hc:0<=C p)(hb:b<=1073741824) :
  Calls Tryz.prog 292 #[.pointer (some ⟨dp,0,none⟩),.int .i64 p,.int .i64 b] w λe w'=>e=.returned (.tuple #[])/\Fr (two dp g) w w'/\DA w' dp g n (up B p b) C:=by
 have p0:=h.pc;have c1:=h.c p hp;have b1:=h.b p hp;have f1:=h.gf (p*2);have hz:((p:Int)==0)=false:=by simp;omega
 have hn':¬ (C p<0):=Om
 have HH:=Hd h;clear h;go_enter Tryz.func292,Tryz.ntmps292
 go_wp2
 go_end0
 exact⟨rfl,Rz (Fl _) _ _,HH.out.setB p b⟩
theorem Ep(w:World)(dp g n p b:Nat)(B C:F)(h:DA w dp g n B C)(hp:p<n)(hr:p=0->B 0=(b:Int))(hc:p≠0->0<=C p)(hb:b<=1073741824) :
  Calls Tryz.prog 292 #[.pointer (some ⟨dp,0,none⟩),.int .i64 p,.int .i64 b] w λe w'=>e=.returned (.tuple #[])/\Fr (two dp g) w w'/\DA w' dp g n (up B p b) C:=by
 by_cases h0:p=0
 ·subst h0;refine (Eo w dp b).mono ?_;rintro e w' ⟨rfl,rfl⟩;exact⟨rfl,Fl _,h.congr (λi _=>by by_cases e:i=0<;>simp[up,e,hr rfl]) (λ_ _=>rfl)⟩
 ·exact Bs w dp g n p b B C h hp h0 (hc h0) hb
end
end Go.Proofs.YtlfoalomaofejaaGreatDoor
section
namespace TR
def O8(acc:List UInt8)(c:UInt8):List UInt8:=if acc.getLast? = some c then acc else acc++[c]
def dd(l:List UInt8):List UInt8:=l.foldl O8 []
theorem Ds(l:List UInt8)(c:UInt8):dd (l++[c])=O8 (dd l) c:=by simp[dd]
theorem Zlr:∀ (l:List UInt8),l.Pairwise (· <= ·)->(dd l).Pairwise (· < ·)/\(∀ c,c∈dd l↔c∈l)/\(dd l).getLast? = l.getLast? /\ (dd l).head? = l.head? /\ (dd l).length<=l.length:=by
 intro l
 induction h:l.length generalizing l with
 | zero =>
  intro _;have:l=[]:=List.eq_nil_of_length_eq_zero h;subst this;simp[dd]
 | succ n ih =>
  intro hp;obtain⟨m,c,rfl⟩:∃ m c,l=m++[c]:=⟨l.dropLast,l.getLast (by intro e;simp[e]at h),(List.dropLast_concat_getLast _).symm⟩;have hm:m.length=n:=by simpa using h
  have a:=(List.pairwise_append.1 hp).1;obtain⟨h1,h2,h3,h4,h5⟩:=ih m hm a;have hc:∀ x∈m,x<=c:=λx hx=>(List.pairwise_append.1 hp).2.2 x hx c (by simp)
  rw[Ds];unfold O8;by_cases e:(dd m).getLast? = some c
  ·rw[if_pos e];have hcm:c∈m:=by rw[h3]at e;exact List.mem_of_getLast? e
   refine⟨h1,λx=>?_,?_,?_,?_⟩
   ·rw[h2 x,List.mem_append,List.mem_singleton];exact⟨.inl,λq=>q.elim id (λq=>q▸hcm)⟩
   ·rw[e];simp
   ·rw[h4]
    cases m with
    | nil=>simp at hcm
    | cons a t=>rfl
   ·omega
  ·rw[if_neg e];refine⟨?_,λx=>?_,by simp,?_,by simp;omega⟩
   ·rw[List.pairwise_append];refine⟨h1,by simp,λx hx y hy=>?_⟩;rw[List.mem_singleton.1 hy];have hx':=(h2 x).1 hx;have hle:=hc x hx';rcases UInt8.lt_or_eq_of_le hle with q|q
    ·exact q
    ·subst q;exfalso;have hne:dd m≠[]:=List.ne_nil_of_mem hx;obtain⟨z,hz⟩:∃ z,(dd m).getLast? = some z:=⟨_,List.getLast?_eq_some_getLast hne⟩;have hzm:z∈m:=(h2 z).1 (List.mem_of_getLast? hz);have hzx:=hc z hzm
     obtain⟨q,hq⟩:∃ q,dd m=q++[z]:=by
      refine⟨(dd m).dropLast,?_⟩;rw[List.getLast?_eq_some_getLast hne]at hz;injection hz with hz
      rw[<- hz];exact (List.dropLast_concat_getLast hne).symm
     rw[hq]at hx h1;rcases List.mem_append.1 hx with hx|hx
     ·have:=(List.pairwise_append.1 h1).2.2 x hx z (by simp);exact absurd this (UInt8.not_lt.2 hzx)
     ·rw[List.mem_singleton.1 hx]at e;exact e hz
   ·rw[List.mem_append,List.mem_append,h2 x]
   ·cases m with
    | nil=>simp[dd]
    | cons a t =>
     rw[List.head?_append,h4];simp
def lex:List UInt8->List UInt8->Bool
 | [],_=>true
 | _::_,[]=>false
 | a::s,b::t=>if a<b then true else if a=b then lex s t else false
def Srt(ks:List Key):Prop:=ks.Pairwise λa b=>lex a.1 b.1=true
def NoZ(ks:List Key):Prop:=∀ k∈ks,(0:UInt8) ∉ k.1
theorem Znk{a b:Key}(h:lex a.1 b.1=true):hd a<=hd b:=by
 obtain⟨s,i⟩:=a;obtain⟨t,j⟩:=b;unfold hd
 match s,t,h with
 | [],t,_=>exact UInt8.le_iff_toNat_le.2 (by simp)
 | x::s,y::t,h =>
  simp only[lex]at h;simp only[List.headD_cons]
  split at h
  ·exact UInt8.le_of_lt ‹_›
  ·split at h
   ·exact ‹x=y›▸UInt8.le_refl _
   ·cases h
theorem Srt.hds{ks:List Key}(h:Srt ks):(ks.map hd).Pairwise (· <= ·):=List.pairwise_map.2 (h.imp Znk)
theorem NoZ.strip{ks:List Key}(h:NoZ ks)(c:UInt8):NoZ (strip c ks):=by
 intro k hk;obtain⟨k',hk',e⟩:=List.mem_filterMap.1 hk
 split at e
 ·cases e
 ·rename_i a t e'
  split at e
  ·injection e with e
   subst e;have:=h k' hk';rw[e']at this;exact λq=>this (List.mem_cons_of_mem _ q)
  ·cases e
theorem Srt.strip{ks:List Key}(h:Srt ks)(c:UInt8):Srt (strip c ks):=by
 refine List.Pairwise.filterMap _ ?_ h;intro a a' hlex b hb b' hb'
 split at hb
 ·cases hb
 ·rename_i x s ex
  split at hb
  ·rename_i e1;injection hb with hb
   split at hb'
   ·cases hb'
   ·rename_i y t ey
    split at hb'
    ·rename_i e2;injection hb' with hb'
     rw[ex,ey,e1,e2]at hlex;rw[<- hb,<- hb'];simpa [lex] using hlex
    ·cases hb'
  ·cases hb
def Ro(ks:List Key):Nat:=(ks.map λk=>k.1.length+1).sum
theorem Jb(k:Key)(ks:List Key):Ro (k::ks)=k.1.length+1+Ro ks:=by simp[Ro]
theorem Uc(c:UInt8)(k:Key)(ks:List Key):strip c (k::ks)=(match k.1 with|[]=>[]|a::t=>if a=c then [(t,k.2)] else [])++strip c ks:=by
 unfold strip;rw[List.filterMap_cons];obtain⟨s,i⟩:=k
 match s with
 | []=>rfl
 | a::t =>
  by_cases e:a=c<;>simp[e]
theorem Hj:∀ (cs:List UInt8) (ks:List Key),cs.Nodup->(cs.map λc=>Ro (strip c ks)).sum+ks.length<=Ro ks
 | cs,[],h=>by
  have:(cs.map λc=>Ro (strip c []))=cs.map λ_=>0:=rfl
  rw[this];clear this
  induction cs with
  | nil=>simp[Ro]
  | cons c cs ih=>simpa [Ro] using ih (List.nodup_cons.1 h).2
 | cs,k::ks,h=>by
  have ih:=Hj cs ks h
  have e:∀ (cs:List UInt8),cs.Nodup->(cs.map λc=>Ro (strip c (k::ks))).sum<=(cs.map λc=>Ro (strip c ks)).sum+k.1.length:=by
   intro cs
   induction cs with
   | nil=>intro _;simp
   | cons c cs ih2 =>
    intro hn;have hn':=List.nodup_cons.1 hn;simp only[List.map_cons,List.sum_cons];obtain⟨s,i⟩:=k
    match s with
    | [] =>
     have:=ih2 hn'.2;have e1:Ro (strip c (([],i)::ks))=Ro (strip c ks):=by rw[Uc];rfl
     rw[e1];simp only[List.length_nil]at this⊢;omega
    | a::t =>
     by_cases ea:a=c
     ·subst ea;have e1:Ro (strip a ((a::t,i)::ks))=t.length+1+Ro (strip a ks):=by rw[Uc];simp[Ro]
      have e2:(cs.map λc=>Ro (strip c ((a::t,i)::ks))).sum=(cs.map λc=>Ro (strip c ks)).sum:=by
       congr 1;apply List.map_congr_left;intro c hc;rw[Uc];have:a≠c:=λe=>hn'.1 (e▸hc)
       simp[this]
      rw[e1,e2];simp only[List.length_cons];omega
     ·have:=ih2 hn'.2;have e1:Ro (strip c ((a::t,i)::ks))=Ro (strip c ks):=by rw[Uc];simp[ea]
      rw[e1];omega
  have:=e cs h;rw[Jb,List.length_cons];omega
structure Laid(n0:Nat)(B0 C0:F)(U0 Um:Nat->Prop)(p b:Nat)(cs:List UInt8)(ks:List Key)(j:Nat)(n:Nat)(B C:F)(U:Nat->Prop):Prop where
 good:FreeOk n B C U
 stay:Hi p n0 B0 C0 U0 n B C U
 base:B p=(b:Int)
 sub:∀ x,Um x->U x
 child:∀ c∈cs,Um (b+c.toNat)/\¬ U0 (b+c.toNat)/\C (b+c.toNat)=(p:Int)
 own:∀ x,U x->C x=(p:Int)->∃ c∈cs,x=b+c.toNat
 leaf:∀ c∈cs.take j,c=0->∀ i,Vt ks=some i->B b = -(i:Int)
 node:∀ c∈cs.take j,c≠0->Sub n B C (λx=>x=b+c.toNat\/(U x/\¬ Um x)) (b+c.toNat) (strip c ks)
variable{n0 n n':Nat}{B0 C0 B C B' C':F}{U0 Um U U':Nat->Prop}{p b:Nat}{cs:List UInt8}{ks:List Key}{j:Nat}
theorem Laid.done(h:Laid n0 B0 C0 U0 Um p b cs ks cs.length n B C U)(hb:1<=b)(hm0:∀ x,U0 x->Um x)(hp:U0 p)(hl:∀ c,c∈cs↔∃ k∈ks,hd k=c) :
  Sub n B C (λx=>x=p\/(U x/\¬ U0 x)) p ks:=by
 refine .mk p ks b (.inl rfl) h.base hb (λc=>⟨λ⟨h1,h2⟩=>?_,λhk=>?_⟩) (λi hi=>?_) (λc h0 hc=>?_)
 ·have hu:U (b+c.toNat):=by
   by_cases e:U (b+c.toNat)
   ·exact e
   ·have:=(h.good.free_iff h1 Om).2 e;omega
  obtain⟨c',hc',e⟩:=h.own _ hu h2;have:c=c':=UInt8.toNat_inj.1 Om;exact (hl c).1 (this▸hc')
 ·obtain⟨h1,h2,h3⟩:=h.child c ((hl c).2 hk);exact⟨h.good.lt _ (h.sub _ h1),h3⟩
 ·have hz:(0:UInt8)∈cs:=by
   obtain⟨k,hk,he⟩:=Qm.1 ⟨i,hi⟩;exact (hl 0).2 ⟨k,hk,by simp[hd,he]⟩
  exact h.leaf 0 (by rw[List.take_length];exact hz) rfl i hi
 ·have hcs:=(hl c).2 hc;obtain⟨h1,h2,h3⟩:=h.child c hcs;refine (h.node c (by rw[List.take_length];exact hcs) h0).keep (λx hx=>?_) (λ_ _=>rfl) (λ_ _ _ _ _=>rfl) (λ_ _ _=>Iff.rfl);rcases hx with rfl|⟨a,b'⟩
  ·exact .inr ⟨h.sub _ h1,h2⟩
  ·exact .inr ⟨a,λe=>b' (hm0 x e)⟩
theorem Laid.leaf_step(h:Laid n0 B0 C0 U0 Um p b cs ks j n B C U)(hj:j<cs.length)(hz:cs[j]=0)(hp:U0 p)(hasc:cs.Pairwise (· < ·)){v:Int}(hv:∀ i,Vt ks=some i->v = -(i:Int)) :
  Laid n0 B0 C0 U0 Um p b cs ks (j+1) n (up B b v) C U:=by
 have hmem:cs[j]∈cs:=List.getElem_mem hj;have hc0:=h.child _ hmem;rw[hz]at hc0;simp at hc0;have hbp:b≠p:=λe=>hc0.2.1 (e▸hp)
 have hj0:j=0:=by
  rcases Nat.eq_zero_or_pos j with e|e
  ·exact e
  ·have:=List.pairwise_iff_getElem.1 hasc 0 j Om hj e;rw[hz]at this;exact absurd (UInt8.lt_iff_toNat_lt.1 this) (by simp)
 subst hj0
 have hg:FreeOk n (up B b v) C U:=⟨h.good.pos,h.good.root,h.good.lt,h.good.used,h.good.nxt,λx hx hu=>by
  rw[Yd _ _ (by rintro rfl;exact hu (h.sub _ hc0.1))];exact h.good.prv x hx hu,h.good.head⟩
 refine⟨hg,⟨h.stay.le,h.stay.sub,λx hx hxp=>?_,h.stay.check,h.stay.fresh⟩,by rw[Yd _ _ (Ne.symm hbp)];exact h.base,h.sub,h.child,h.own,λc _ _ i hi=>by rw[Y0];exact hv i hi,λc hc hc0'=>?_⟩
 ·rw[Yd _ _ (by rintro rfl;exact hc0.2.1 hx)];exact h.stay.base x hx hxp
 ·exfalso;rw[List.take_succ_eq_append_getElem hj]at hc;simp at hc;exact hc0' (hc.trans hz)
theorem Laid.node_step(h:Laid n0 B0 C0 U0 Um p b cs ks j n B C U)(hj:j<cs.length)(hz:cs[j]≠0)(hb:1<=b)(hp:U0 p)(r0:U0 0)(hm0:∀ x,U0 x->Um x)(hnd:cs.Nodup)
  (hs:Hi (b+(cs[j]).toNat) n B C U n' B' C' U') (hg:FreeOk n' B' C' U') (hsub:Sub n' B' C' (λx=>x=b+(cs[j]).toNat\/(U' x/\¬ U x)) (b+(cs[j]).toNat) (strip cs[j] ks)) :
  Laid n0 B0 C0 U0 Um p b cs ks (j+1) n' B' C' U':=by
 have hmem:cs[j]∈cs:=List.getElem_mem hj;obtain⟨q1,q2,q3⟩:=h.child _ hmem;have hqU:=h.sub _ q1;have hpU:U p:=h.stay.sub _ hp;have hqp:b+(cs[j]).toNat≠p:=λe=>q2 (e▸hp)
 refine⟨hg,h.stay.step hs r0 (.inr ⟨hqU,q2⟩),(hs.base p hpU (Ne.symm hqp)).trans h.base,λx hx=>hs.sub x (h.sub x hx),λc hc=>?_,λx hx hc=>?_,λc hc hc0 i hi=>?_,λc hc hc0=>?_⟩
 ·obtain⟨a1,a2,a3⟩:=h.child c hc;exact⟨a1,a2,(hs.check _ (h.sub _ a1) Om).trans a3⟩
 ·by_cases hu:U x
  ·by_cases x0:x=0
   ·subst x0;obtain⟨y,hy,hf⟩:=hg.head;have:y≠0:=λe=>hf.2.1 (e▸hg.root)
    omega
   ·rw[hs.check x hu x0]at hc;exact h.own x hu hc
  ·obtain⟨y,hy,hy'⟩:=hs.fresh x hx hu;have e:y=p:=Om;subst e;rcases hy' with e|e
   ·exact absurd e.symm hqp
   ·exact absurd hpU e.2
 ·rw[List.take_succ_eq_append_getElem hj]at hc;rcases List.mem_append.1 hc with hc|hc
  ·have hcm:=List.mem_of_mem_take hc;have a1:=(h.child c hcm).1;rw[hc0]at a1;simp at a1
   have:b≠b+(cs[j]).toNat:=by
    intro e;apply hz;apply UInt8.toNat_inj.1;simp;omega
   rw[hs.base b (h.sub _ a1) this];exact h.leaf c hc hc0 i hi
  ·simp at hc;exact absurd (hc.symm.trans hc0) hz
 ·rw[List.take_succ_eq_append_getElem hj]at hc;rcases List.mem_append.1 hc with hc|hc
  ·have hcm:=List.mem_of_mem_take hc
   have hne:c≠cs[j]:=by
    intro e;rw[e]at hc;obtain⟨i,hi,he⟩:=List.getElem_of_mem hc;simp only[List.length_take]at hi;rw[List.getElem_take]at he;have:=(List.getElem_inj (h₀:=Om) (h₁:=hj) hnd).1 he;omega
   have hTU:∀ x,(x=b+c.toNat\/(U x/\¬ Um x))->U x/\x≠b+(cs[j]).toNat:=by
    rintro x (rfl|⟨a,b'⟩)
    ·exact⟨h.sub _ (h.child c hcm).1,λe=>hne (UInt8.toNat_inj.1 Om)⟩
    ·exact⟨a,λe=>b' (e▸q1)⟩
   refine (h.node c hc hc0).keep (λx hx=>?_) (λx hx=>?_) (λq x hq hx hcx=>?_) (λq hq x=>?_)
   ·rcases hx with rfl|⟨a,b'⟩
    ·exact .inl rfl
    ·exact .inr ⟨hs.sub x a,b'⟩
   ·exact hs.base x (hTU x hx).1 (hTU x hx).2
   ·
    obtain⟨hqu,hqne⟩:=hTU q hq
    have hx0:x≠0:=by
     rintro rfl;obtain⟨y,hy,hf⟩:=h.good.head;have:y≠0:=λe=>hf.2.1 (e▸h.good.root)
     omega
    have hxu:U x:=by
     by_cases e:U x
     ·exact e
     ·have:=(h.good.free_iff hx hx0).2 e;omega
    refine hs.base x hxu (λe=>?_);rw[e,q3]at hcx;have:q=p:=Om;subst this;rcases hq with e|⟨_,e⟩
    ·exact (h.child c hcm).2.1 (e▸hp)
    ·exact e (hm0 _ hp)
   ·exact hs.checks h.good hg (hTU q hq).1 (hTU q hq).2 x
  ·simp at hc;subst hc;refine hsub.keep (λx hx=>?_) (λ_ _=>rfl) (λ_ _ _ _ _=>rfl) (λ_ _ _=>Iff.rfl);rcases hx with rfl|⟨a,b'⟩
   ·exact .inl rfl
   ·exact .inr ⟨a,λe=>b' (h.sub x e)⟩
end TR
end
