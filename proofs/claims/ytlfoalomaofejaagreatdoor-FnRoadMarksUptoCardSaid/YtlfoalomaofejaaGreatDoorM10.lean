/- Maps in memory, as lists of pa -/
import Derived.Test.YtlfoalomaofejaaGreatDoorM1
import Derived.MapKept
import Derived.Maps.AppendAt
import Derived.Deep.OwnRows
set_option linter.all false
set_option maxRecDepth 100000
set_option maxHeartbeats 1000000
section
set_option linter.unusedSectionVars false
namespace Go.Proofs.YtlfoalomaofejaaGreatDoor
open Go.RowKit MapKept
section
variable{κ β:Type}[DecidableEq κ]
def look:List (κ×β)->κ->Option β
 | [],_=>none
 | (a,x)::l,k=>if a=k then some x else look l k
def put:List (κ×β)->κ->β->List (κ×β)
 | [],k,v=>[(k,v)]
 | (a,x)::l,k,v=>if a=k then (a,v)::l else (a,x)::put l k v
theorem Wn(l:List (κ×β))(k h:κ)(v:β):look (put l k v) h=if k=h then some v else look l h:=by
 induction l with
 | nil=>simp[put,look]
 | cons p l ih =>
  obtain⟨a,x⟩:=p;unfold put
  split
  ·rename_i e;subst e;simp only[look]
   split<;>simp_all
  ·rename_i e;simp only[look,ih]
   split
   ·rename_i e';subst e';rw[if_neg (Ne.symm e)]
   ·rfl
end
structure Ja{κ:Type}(d:TypeDesc)(kv:κ->Value):Prop where
 isKey:∀ k,IsKey d (kv k)
 inj:∀ a b,kv a=kv b->a=b
theorem Ze2:Ja (κ:=UInt8) (.int .u8) (λc=>Value.int .u8 (c.toNat:Int)):=⟨λ_=>rfl,λa b h=>by
 injection h with _ h
 exact UInt8.toNat_inj.1 Om⟩
theorem Vv:Ja (κ:=ByteArray) .string Value.string:=⟨λ_=>trivial,λa b h=>by cases h;rfl⟩
def Zq{κ:Type}(kv:κ->Value)(r:Nat)(l:List (κ×Value))(w:World):Prop :=
 ∃ q h,w.heap[r]?=some (.map q h)/\q.toList.map (λe=>(e.key,e.val))=l.map (λp=>(kv p.1,p.2))/\Stamped q h
section
variable{κ:Type}[DecidableEq κ]{d:TypeDesc}{kv:κ->Value}{P:Program}{w w':World}{r:Nat}{l:List (κ×Value)}{mty kt et:TypeId}
theorem Zq.lt(h:Zq kv r l w):r<w.heap.size:=by
 obtain⟨A,q,z,_⟩:=h;exact (Gs1.1 z).1
theorem Zq.keep(h:Zq kv r l w){S:Nat->Prop}(f:Fr S w w')(z:¬ S r):Zq kv r l w':=by
 obtain⟨I,q,G,A⟩:=h;exact⟨I,q,f.heap G z,A⟩
theorem Zq.alloc(h:Zq kv r l w)(o:Obj):Zq kv r l (w.alloc o):=by
 obtain⟨G,q,z,A⟩:=h;exact⟨G,q,by rw[alloc_old w o (Gs1.1 z).1];exact z,A⟩
theorem Zq.made(kv:κ->Value)(w:World):Zq kv w.heap.size [] (w.alloc (.map #[] 0)):=⟨#[],0,alloc_at _ _,rfl,stamped_empty 0⟩
theorem Qn(K:Ja d kv)(k:κ):∀ (l:List (κ×Value)) (G:List MapEntry) (i:Nat),G.map (λe=>(e.key,e.val))=l.map (λp=>(kv p.1,p.2)) ->
  (Instr.findNow d (kv k) G i=some none/\look l k=none/\(∀ x∈G,x.key≠kv k)/\∀ (v:Value) (A:Nat),(G++[({ key:=kv k,val:=v,born:=A }:MapEntry)]).map (λe=>(e.key,e.val))=(put l k v).map (λp=>(kv p.1,p.2))) \/
  ∃ j e,Instr.findNow d (kv k) G i=some (some (i+j,e.val))/\look l k=some e.val/\G[j]?=some e/\e.key=kv k/\∀ f:MapEntry->MapEntry,(f e).key=kv k->(G.modify j f).map (λe=>(e.key,e.val))=(put l k (f e).val).map (λp=>(kv p.1,p.2))
 | [],[],_,_=>.inl ⟨rfl,rfl,by simp,λ_ _=>rfl⟩
 | (a,x)::l,[],i,h=>by simp at h
 | [],e::G,i,h=>by simp at h
 | (a,x)::l,e::G,i,h=>by
  simp only[List.map_cons,List.cons.injEq,Prod.mk.injEq]at h;obtain⟨⟨h1,h2⟩,h3⟩:=h;have W:IsKey d e.key:=h1▸K.isKey a;obtain⟨q,L,I⟩:=sameNow_of_keys (K.isKey k) W;by_cases z:a=k
  ·subst z;have:q=true:=I.2 h1.symm;subst this;refine .inr ⟨0,e,by simp[Instr.findNow,L],by simp[look,h2],rfl,h1,λf M=>?_⟩;simp[put,List.modify,M,h3]
  ·have:q=false:=by
    cases q with
    | false=>rfl
    | true=>exact absurd (K.inj _ _ ((I.1 rfl).trans h1)).symm z
   subst this;rcases Qn K k l G (i+1) h3 with ⟨V,a2,a0,a3⟩|⟨j,X,V,a2,a3,a4,a5⟩
   ·refine .inl ⟨by simp[Instr.findNow,L,V],by simp[look,z,a2],λx J=>?_,λv A=>?_⟩
    ·rcases List.mem_cons.1 J with rfl|J
     ·rw[h1];exact λe=>z (K.inj _ _ e)
     ·exact a0 x J
    simp only[put,if_neg z,List.cons_append,List.map_cons,a3 v A,h1,h2]
   ·refine .inr ⟨j+1,X,by simp[Instr.findNow,L,V];omega,by simp[look,z,a2],by simpa using a3,a4,λf M=>?_⟩;simp only[put,if_neg z,List.modify_succ_cons,List.map_cons,a5 f M,h1,h2]
theorem Ia(K:Ja d kv)(A:P.underlying mty=some (.map kt et))(hd:P.underlying kt=some d){z:Value}(I:(zeroValue et).run P w=.ok z w)(h:Zq kv r l w)(k:κ)(c:Bool) :
  (Instr.lookup mty (.map (some r)) (kv k) c).run P w=.ok (if c then .tuple #[(look l k).getD z,.bool (look l k).isSome] else (look l k).getD z) w:=by
 obtain⟨L,q,G,J,_⟩:=h;rcases Qn K k l L.toList 0 J with ⟨h1,h2,_⟩|⟨j,e,h1,h2,_⟩
 ·simp[Instr.lookup,run_underlying A,MapKept.run_getObj_map G,run_checkKey hd (K.isKey k),run_findKey hd h1,Result.andThen,I,h2]
 ·simp[Instr.lookup,run_underlying A,MapKept.run_getObj_map G,run_checkKey hd (K.isKey k),run_findKey hd h1,Result.andThen,h2]
theorem Kt(w:World)(r:Nat)(o:Obj):Fr (λk=>k=r) w { w with heap:=w.heap.setIfInBounds r o } :=
 ⟨rfl,rfl,rfl,by simp,λk _ h=>by
  have:r≠k:=λe=>h e.symm
  simp[this]⟩
theorem Nz(K:Ja d kv)(I:P.underlying mty=some (.map kt et))(hd:P.underlying kt=some d)(h:Zq kv r l w)(k:κ)(v:Value) :
  ∃ w',(Instr.mapUpdate mty (.map (some r)) (kv k) v).run P w=.ok () w'/\Zq kv r (put l k v) w'/\Fr (λk=>k=r) w w'/\w'.heap.size=w.heap.size:=by
 obtain⟨L,q,z,M,A⟩:=h;rcases Qn K k l L.toList 0 M with ⟨h1,h2,W,h3⟩|⟨j,e,h1,h2,h3,h4,V⟩
 ·refine⟨_,by simp[Instr.mapUpdate,run_underlying I,MapKept.run_getObj_map z,run_checkKey hd (K.isKey k),run_findKey hd h1,run_setObj_map _ z,Result.andThen];rfl,?_,Kt w r _,by simp⟩;refine⟨_,_,(heap_set z).1,?_,stamped_push A W⟩;rw[Array.toList_push];exact h3 v q
 ·have J:L[j]?=some e:=by simpa using h3
  refine⟨_,by simp[Instr.mapUpdate,run_underlying I,MapKept.run_getObj_map z,run_checkKey hd (K.isKey k),run_findKey hd h1,J,h4,run_keyThatStays (K.isKey k),run_setObj_map _ z,Result.andThen];rfl,?_,Kt w r _,by simp⟩;refine⟨_,_,(heap_set z).1,?_,stamped_modify A _ _ (λ_ _=>rfl) (λX _ G=>by rw[J]at G;cases G;exact h4.symm)⟩;rw[Array.toList_modify];exact V (λe=>{ e with key:=kv k,val:=v }) rfl
theorem Zk{ops:Array Oper}{rest:List Oper}{o:Oper}{a:Act}{Q:Exit->Act->World->Prop}(V:o.guard=none)(m x:Operand)(c:Bool)(A:o.op=Op.lookup mty m x c)
  (K:Ja d kv) (L:P.underlying mty=some (.map kt et)) (hd:P.underlying kt=some d) {z:Value} (I:(zeroValue et).run P w=.ok z w) (M:a.eval m=.map (some r)) (h:Zq kv r l w) (k:κ) (J:a.eval x=kv k)
  (W:wpList P ops Q rest (a.put o.dst (if c then .tuple #[(look l k).getD z,.bool (look l k).isSome] else (look l k).getD z)) w):wpList P ops Q (o::rest) a w:=by
 refine wpList_plain V λX G=>?_
 have q:=Ia K L hd I h k c;unfold Oper.wp;simp only[execOp,A,M,J,q,Sem.run_bind,Sem.run_pure,Result.andThen_ok];exact G _ _ W
theorem Yd{ops:Array Oper}{rest:List Oper}{o:Oper}{a:Act}{Q:Exit->Act->World->Prop}(M:o.guard=none)(m x u:Operand)(z:o.op=Op.mapUpdate mty m x u)
  (K:Ja d kv) (J:P.underlying mty=some (.map kt et)) (hd:P.underlying kt=some d) (L:a.eval m=.map (some r)) (h:Zq kv r l w) (k:κ) (v:Value) (G:a.eval x=kv k) (I:a.eval u=v)
  (V:∀ w',Zq kv r (put l k v) w'->Fr (λk=>k=r) w w'->w'.heap.size=w.heap.size->wpList P ops Q rest (a.put o.dst undef) w'):wpList P ops Q (o::rest) a w:=by
 refine wpList_plain M λW A=>?_
 obtain⟨w',q,h1,h2,h3⟩:=Nz K J hd h k v;unfold Oper.wp;simp[execOp,z,L,G,I,q,Result.andThen];exact A _ _ (V w' h1 h2 h3)
end
end Go.Proofs.YtlfoalomaofejaaGreatDoor
end
namespace Go.Proofs.YtlfoalomaofejaaGreatDoor
section
open Go.RowKit DT
structure Q2 where
 P:(Nat->Prop)->World->Prop
 st:∀ {F w w'},P F w->w.heap.size<=w'.heap.size->(∀ b,F b->b<w.heap.size->w'.heap[b]?=w.heap[b]?)->P F w'
def Yr(H:Nat)(l:List Q2)(w:World):Prop :=
 ∃ q:Nat->Nat->Prop,(∀ i (h:i<l.length),l[i].P (q i) w)/\(∀ i j,i<l.length->j<l.length->i≠j->∀ b,q i b->¬ q j b)/\(∀ i,i<l.length->∀ b,q i b->H<=b/\b<w.heap.size)
theorem Yr.ext{H:Nat}{l:List Q2}{w w':World}(h:Yr H l w)(f:Zf w w'):Yr H l w':=by
 obtain⟨z,h1,h2,h3⟩:=h;exact⟨z,λi hi=>(l[i]).st (h1 i hi) f.size (λb _ q=>f.block b q id),h2,λi hi b q=>⟨(h3 i hi b q).1,Nat.lt_of_lt_of_le (h3 i hi b q).2 f.size⟩⟩
theorem Yr.low{H:Nat}{l:List Q2}{w w':World}(h:Yr H l w)(f:Fr (λj=>j<H) w w'):Yr H l w':=by
 obtain⟨A,h1,h2,h3⟩:=h;exact⟨A,λi hi=>(l[i]).st (h1 i hi) f.size (λb hF z=>f.block b z (λq=>by have:=(h3 i hi b hF).1;omega)),h2,λi hi b z=>⟨(h3 i hi b z).1,Nat.lt_of_lt_of_le (h3 i hi b z).2 f.size⟩⟩
theorem Yt{w:World}{b:Nat}{cs:Array Value}{T:TypeId}{f:Nat×Nat}(h:w.heap[b]?=some (.cells cs T f))(j:Nat)(u:Value):(w.setCell ⟨b,j,none⟩ u).heap[b]?=some (.cells (cs.setIfInBounds j u) T f):=by
 simp[World.setCell,Array.getElem?_modify,h]
theorem Yr.upd{H:Nat}{l:List Q2}{w:World}(h:Yr H l w)(i:Nat)(hi:i<l.length) :
  ∃ F,l[i].P F w/\(∀ b,F b->H<=b/\b<w.heap.size)/\∀ (w':World) (A:Q2) (L:Nat->Prop),Fr F w w'->A.P L w'->(∀ b,L b->F b\/w.heap.size<=b)->(∀ b,L b->b<w'.heap.size)->H<=w.heap.size->Yr H (l.set i A) w':=by
 obtain⟨W,h1,h2,h3⟩:=h;refine⟨W i,h1 i hi,h3 i hi,λw' A L V hA hF I X=>⟨λk=>if k=i then L else W k,λk G=>?_,λk j G M J b z=>?_,λk G b z=>?_⟩⟩
 ·rw[List.length_set]at G;by_cases e:k=i
  ·subst e;simp only[List.getElem_set_self,if_true];exact hA
  ·simp only[if_neg e];rw[List.getElem_set_ne (λq=>e q.symm)];exact (l[k]).st (h1 k G) V.size (λb z I=>V.block b I (h2 k i G hi e b z))
 ·rw[List.length_set]at G M;by_cases e:k=i
  ·rw[if_pos e]at z;have K:j≠i:=λq=>J (e.trans q.symm)
   simp only[if_neg K];rcases hF b z with q|q
   ·exact h2 i j hi M (λq=>K q.symm) b q
   ·intro r;have:=(h3 j M b r).2;omega
  ·rw[if_neg e]at z;by_cases K:j=i
   ·simp only[if_pos K];intro r;rcases hF b r with q|q
    ·exact h2 k i G hi e b z q
    ·have:=(h3 k G b z).2;omega
   ·simp only[if_neg K];exact h2 k j G M J b z
 ·rw[List.length_set]at G;by_cases e:k=i
  ·rw[if_pos e]at z;rcases hF b z with q|q
   ·exact⟨(h3 i hi b q).1,I b z⟩
   ·exact⟨Om,I b z⟩
  ·rw[if_neg e]at z;exact⟨(h3 k G b z).1,Nat.lt_of_lt_of_le (h3 k G b z).2 V.size⟩
theorem Yr.snoc{H:Nat}{l:List Q2}{w w':World}(h:Yr H l w)(f:Zf w w')(M:H<=w.heap.size)(A:Q2)(K:Nat->Prop)(hA:A.P K w')(hF:∀ b,K b->w.heap.size<=b/\b<w'.heap.size):Yr H (l++[A]) w':=by
 obtain⟨V,h1,h2,h3⟩:=h;refine⟨λk=>if k=l.length then K else V k,λk I=>?_,λk j I L G b z=>?_,λk I b z=>?_⟩
 ·rw[List.length_append,List.length_singleton]at I;by_cases e:k=l.length
  ·subst e;simp only[if_true,List.getElem_concat_length];exact hA
  ·simp only[if_neg e];rw[List.getElem_append_left Om];exact (l[k]' Om).st (h1 k Om) f.size (λb _ z=>f.block b z id)
 ·rw[List.length_append,List.length_singleton]at I L;by_cases e:k=l.length
  ·rw[if_pos e]at z;have J:j≠l.length:=λq=>G (e.trans q.symm)
   simp only[if_neg J];intro r;have:=(h3 j Om b r).2;have:=(hF b z).1;omega
  ·rw[if_neg e]at z;by_cases J:j=l.length
   ·simp only[if_pos J];intro r;have:=(h3 k Om b z).2;have:=(hF b r).1;omega
   ·simp only[if_neg J];exact h2 k j Om Om G b z
 ·rw[List.length_append,List.length_singleton]at I;by_cases e:k=l.length
  ·rw[if_pos e]at z;exact⟨Nt M (hF b z).1,(hF b z).2⟩
  ·rw[if_neg e]at z;exact⟨(h3 k Om b z).1,Nat.lt_of_lt_of_le (h3 k Om b z).2 f.size⟩
theorem Yr.app{H I:Nat}{l m:List Q2}{w w':World}(h:Yr H l w)(f:Zf w w')(k:Yr I m w')(X:w.heap.size<=I)(M:H<=w.heap.size):Yr H (l++m) w':=by
 obtain⟨W,h1,h2,h3⟩:=h;obtain⟨V,K,J,A⟩:=k;refine⟨λi=>if i<l.length then W i else V (i-l.length),λi hi=>?_,λi j hi L G b q=>?_,λi hi b q=>?_⟩
 ·rw[List.length_append]at hi;by_cases e:i<l.length
  ·simp only[if_pos e];rw[List.getElem_append_left e];exact (l[i]).st (h1 i e) f.size (λb _ q=>f.block b q id)
  ·simp only[if_neg e];rw[List.getElem_append_right Om];exact K _ Om
 ·rw[List.length_append]at hi L;by_cases e:i<l.length<;>by_cases z:j<l.length
  ·rw[if_pos e]at q;simp only[if_pos z];exact h2 i j e z G b q
  ·rw[if_pos e]at q;simp only[if_neg z];intro r;have:=(h3 i e b q).2;have:=(A _ Om b r).1;omega
  ·rw[if_neg e]at q;simp only[if_pos z];intro r;have:=(h3 j z b r).2;have:=(A _ Om b q).1;omega
  ·rw[if_neg e]at q;simp only[if_neg z];exact J _ _ Om Om Om b q
 ·rw[List.length_append]at hi;by_cases e:i<l.length
  ·rw[if_pos e]at q;exact⟨(h3 i e b q).1,Nat.lt_of_lt_of_le (h3 i e b q).2 f.size⟩
  ·rw[if_neg e]at q;have:=A _ Om b q;exact⟨Om,this.2⟩
theorem Yr.nil(H:Nat)(w:World):Yr H [] w:=⟨λ_ _=>False,λi h=>by simp at h,λi j h=>by simp at h,λi h=>by simp at h⟩
theorem Yr.get{H:Nat}{l:List Q2}{w:World}(h:Yr H l w)(i:Nat)(hi:i<l.length):∃ F,l[i].P F w/\∀ b,F b->H<=b/\b<w.heap.size:=by
 obtain⟨F,h1,h2,_⟩:=h.upd i hi;exact⟨F,h1,h2⟩
theorem frz{F:Nat->Prop}{w w':World}(_:w.heap.size<=w'.heap.size)(h:∀ b,F b->b<w.heap.size->w'.heap[b]?=w.heap[b]?){b:Nat}(z:F b){o:Obj}(q:w.heap[b]?=some o):w'.heap[b]?=some o:=by
 rw[h b z (Gs1.1 q).1];exact q
def Tp(b:Nat)(cs:Array Value)(T:TypeId):Q2:=⟨λF w=>w.heap[b]?=some (.cells cs T (0,0))/\F b,λh q z=>⟨frz q z h.2 h.1,h.2⟩⟩
def Yq(T:TypeId)(k:Nat)(v:Value)(n:Nat)(xs:List Value):Q2 :=
 ⟨λF w=>w.ownsRow 0 T k v n xs/\∀ b,v.ownBlock=some b->F b,by
  rintro F w w' ⟨⟨hl,h|⟨g,cap,q,rfl,I,G,h2⟩⟩,h1⟩ z A
  ·exact⟨⟨hl,.inl h⟩,h1⟩
  ·exact⟨⟨hl,.inr ⟨g,cap,q,rfl,I,frz z A (h1 g rfl) G,h2⟩⟩,h1⟩⟩
def Ls{κ:Type}[DecidableEq κ](kv:κ->Value)(r:Nat)(l:List (κ×Value)):Q2 :=
 ⟨λF w=>Zq kv r l w/\F r,by
  rintro F w w' ⟨h,h1⟩ z G;have A:=h.lt;obtain⟨I,q,a,b,c⟩:=h
  exact⟨⟨I,q,frz z G h1 a,b,c⟩,h1⟩⟩
def rowD{α:Type}(d:Ty α)(T:TypeId)(v:Value)(xs:List α):Q2 :=
 ⟨λF w=>∃ cs:List Value,cs.length=xs.length/\w.ownsRow 0 T 1 v xs.length cs/\(∀ b,v.ownBlock=some b->F b)/\∀ i (h:i<xs.length) (V:i<cs.length),d.R w (λj=>F j/\v.ownBlock≠some j) xs[i] [cs[i]],by
  rintro F w w' ⟨cs,K,⟨hl,h|⟨g,cap,J,rfl,M,L,h2⟩⟩,h1,h3⟩ z I
  ·exact⟨cs,K,⟨hl,.inl h⟩,h1,λi hi q=>d.move z (λk G A=>I k A.1 G) (h3 i hi q)⟩
  ·exact⟨cs,K,⟨hl,.inr ⟨g,cap,J,rfl,M,frz z I (h1 g rfl) L,h2⟩⟩,h1,λi hi q=>d.move z (λk G A=>I k A.1 G) (h3 i hi q)⟩⟩
def Py(b:Nat)(T:TypeId)(n:Nat)(f:Nat->Value):Q2 :=
 ⟨λF w=>w.rowIs b T n f/\F b,by
  rintro F w w' ⟨⟨c,a,h1⟩,h2⟩ h q
  exact⟨⟨c,frz h q h2 a,h1⟩,h2⟩⟩
variable{H:Nat}{l:List Q2}{w w':World}
theorem Ip{base sz n g:Nat}{e:TypeId}{v:Value}{xs:List Value}(h:w.ownsRow base e sz v n xs)(q:v.ownBlock=some g):g<w.heap.size:=by
 obtain⟨_,⟨rfl,_⟩|⟨A,cap,G,rfl,_,z,_⟩⟩:=h
 ·cases q
 ·have:A=g:=by simpa [Value.ownBlock] using q
  subst this;exact (Gs1.1 z).1
theorem Yr.row{T:TypeId}{k n:Nat}{v:Value}{xs:List Value}(h:Yr H l w)(i:Nat)(hi:i<l.length)(e:l[i]=Yq T k v n xs)(L:H<=w.heap.size) :
  w.ownsRow 0 T k v n xs/\(∀ b,v.ownBlock=some b->H<=b/\b<w.heap.size)/\∀ (w':World) (G:Value) (n':Nat) (A:List Value),w.grownBy w' v.ownBlock->w'.ownsRow 0 T k G n' A->(G.ownBlock=v.ownBlock\/G.ownBlock=some w.heap.size)->Yr H (l.set i (Yq T k G n' A)) w':=by
 obtain⟨F,h1,h2,h3⟩:=h.upd i hi;rw[e]at h1;obtain⟨h1,h4⟩:=h1;refine⟨h1,λb z=>h2 b (h4 b z),λw' G n' A K J I=>h3 w' _ (λb=>F b\/G.ownBlock=some b) ((Fr.refl F w).grown K (λb z _=>h4 b z)) ⟨J,λb z=>.inr z⟩ (λb z=>?_) (λb z=>?_) L⟩
 ·rcases z with z|z
  ·exact .inl z
  ·rcases I with q|q
   ·exact .inl (h4 b (by rw[<- q];exact z))
   ·right;rw[q]at z;injection z with z;omega
 ·rcases z with z|z
  ·exact Nat.lt_of_lt_of_le (h2 b z).2 K.size
  ·exact Ip J z
theorem Yr.rowApp{T:TypeId}{k n:Nat}{v:Value}{xs:List Value}(h:Yr H l w)(i:Nat)(hi:i<l.length)(e:l[i]=Yq T k v n xs)(L:H<=w.heap.size){o:Obj}{z:World}{A:Value}{n':Nat}{q:List Value}
  (I:(w.alloc o).grownBy z v.ownBlock) (J:z.ownsRow 0 T k A n' q) (G:A.ownBlock=v.ownBlock\/A.ownBlock=some (w.alloc o).heap.size):Yr H (l.set i (Yq T k A n' q)) z/\H<=z.heap.size:=by
 have K:(w.alloc o).heap.size=w.heap.size+1:=Za _ _;exact⟨((h.ext ((Fl w).alloc o)).row i hi e Om).2.2 z A n' q I J G,by have:=I.size;omega⟩
theorem Yr.cell{b:Nat}{cs:Array Value}{T:TypeId}(h:Yr H l w)(i:Nat)(hi:i<l.length)(e:l[i]=Tp b cs T)(z:H<=w.heap.size) :
  w.heap[b]?=some (.cells cs T (0,0))/\H<=b/\∀ (j:Nat) (u:Value),Yr H (l.set i (Tp b (cs.setIfInBounds j u) T)) (w.setCell ⟨b,j,none⟩ u):=by
 obtain⟨F,h1,h2,h3⟩:=h.upd i hi;rw[e]at h1;obtain⟨h1,h4⟩:=h1;refine⟨h1,(h2 b h4).1,λj u=>h3 _ _ F ((Fr.refl F w).setCell _ _ (λ_=>h4)) ⟨?_,h4⟩ (λb q=>.inl q) (λb q=>?_) z⟩
 ·simp[World.setCell,Array.getElem?_modify,h1]
 ·have:=(h2 b q).2;simpa [World.setCell] using this
theorem Yr.map{κ:Type}[DecidableEq κ]{kv:κ->Value}{r:Nat}{ps:List (κ×Value)}(h:Yr H l w)(i:Nat)(hi:i<l.length)(e:l[i]=Ls kv r ps)(J:H<=w.heap.size) :
  Zq kv r ps w/\H<=r/\∀ (w':World) (z:List (κ×Value)),Fr (λj=>j=r) w w'->Zq kv r z w'->Yr H (l.set i (Ls kv r z)) w':=by
 obtain⟨F,h1,h2,h3⟩:=h.upd i hi;rw[e]at h1;obtain⟨h1,h4⟩:=h1;exact⟨h1,(h2 r h4).1,λw' z G I=>h3 w' _ F (G.mono (λj _ q=>by rw[q];exact h4)) ⟨I,h4⟩ (λb A=>.inl A) (λb A=>Nat.lt_of_lt_of_le (h2 b A).2 G.size) J⟩
theorem Yr.block{b n:Nat}{T:TypeId}{f:Nat->Value}(h:Yr H l w)(i:Nat)(hi:i<l.length)(e:l[i]=Py b T n f)(z:H<=w.heap.size) :
  w.rowIs b T n f/\H<=b/\∀ (j:Nat) (u:Value),Yr H (l.set i (Py b T n (λx=>if x=j then u else f x))) (w.setCell ⟨b,j,none⟩ u):=by
 obtain⟨F,h1,h2,h3⟩:=h.upd i hi;rw[e]at h1;obtain⟨h1,h4⟩:=h1;refine⟨h1,(h2 b h4).1,λj u=>h3 _ _ F ((Fr.refl F w).setCell _ _ (λ_=>h4)) ⟨h1.set j u,h4⟩ (λb q=>.inl q) (λb q=>?_) z⟩;have:=(h2 b q).2;simpa [World.setCell] using this
theorem Yr.rowD{α:Type}{d:Ty α}{T:TypeId}{v c:Value}{xs:List α}{x:α}{I:World}(h:Yr H l w)(i:Nat)(hi:i<l.length)(e:l[i]=Go.Proofs.YtlfoalomaofejaaGreatDoor.rowD d T v xs)(hH:H<=w.heap.size)(X:Zf w I)(hr:d.R I (λj=>w.heap.size<=j) x [c]) :
  ∃ cs:List Value,cs.length=xs.length/\I.ownsRow 0 T 1 v xs.length cs/\(∀ b,v.ownBlock=some b->H<=b/\b<w.heap.size)/\∀ (wa w':World) (L:Value),Zf I wa->wa.grownBy w' v.ownBlock->w'.ownsRow 0 T 1 L (xs.length+1) (cs++[c])->(L.ownBlock=v.ownBlock\/L.ownBlock=some wa.heap.size)->Yr H (l.set i (Go.Proofs.YtlfoalomaofejaaGreatDoor.rowD d T L (xs++[x]))) w':=by
 obtain⟨F,h1,h2,h3⟩:=h.upd i hi;rw[e]at h1;obtain⟨cs,W,G,h4,h5⟩:=h1
 have Y:I.ownsRow 0 T 1 v xs.length cs:=by
  obtain⟨hl,q|⟨g,cap,ab,rfl,A,hc,q⟩⟩:=G
  ·exact⟨hl,.inl q⟩
  ·exact⟨hl,.inr ⟨g,cap,ab,rfl,A,X.heap hc id,q⟩⟩
 refine⟨cs,W,Y,λb A=>h2 b (h4 b A),λwa w' L M hg hn aa=>?_⟩;have s1:=X.size;have s2:=M.size;have s3:=hg.size;have V:∀ b,v.ownBlock=some b->b<w.heap.size:=λb A=>(h2 b (h4 b A)).2
 have J:∀ b,L.ownBlock=some b->v.ownBlock=some b\/b=wa.heap.size:=λb A=>by
  rcases aa with q|q
  ·left;rw[<- q];exact A
  ·right;rw[q]at A;injection A with A;exact A.symm
 have F1:Fr (λj=>v.ownBlock=some j) I w':=(Fr.trans (S:=λj=>v.ownBlock=some j) (M.mono (λ_ _ e=>e.elim)) ((Fr.refl (λj=>v.ownBlock=some j) wa).grown hg (λk q _=>q)) (λ_ _ q=>q));have F0:Fr (λj=>v.ownBlock=some j) w w':=Fr.trans (S:=λj=>v.ownBlock=some j) (X.mono (λ_ _ e=>e.elim)) F1 (λ_ _ q=>q);refine h3 w' _ (λb=>F b\/(w.heap.size<=b/\b<w'.heap.size)) (F0.mono (λj _ q=>h4 j q)) ⟨cs++[c],by simp[W],by rw[List.length_append,List.length_singleton];exact hn,λb A=>?_,λk hk ac=>?_⟩ (λb A=>A.imp id (λq=>q.1)) (λb A=>?_) hH
 ·rcases J b A with q|q
  ·exact .inl (h4 b q)
  ·exact .inr ⟨Om,Ip hn A⟩
 ·rcases Nat.lt_or_ge k xs.length with q|q
  ·have e1:(xs++[x])[k]=xs[k]:=List.getElem_append_left q;have e2:(cs++[c])[k]=cs[k]' Om:=List.getElem_append_left Om;rw[e1,e2];refine d.mono (λj _ G=>⟨.inl G.1,λr=>?_⟩) (d.move F0.size (λj K G=>F0.block j K (λr=>G.2 r)) (h5 k q Om));rcases J j r with z|z
   ·exact G.2 z
   ·have:=(h2 j G.1).2;omega
  ·have Z:k=xs.length:=by rw[List.length_append,List.length_singleton]at hk;omega
   subst Z;have e1:(xs++[x])[xs.length]=x:=(by simp);have e2:(cs++[c])[xs.length]'(by simp[W])=c:=(by simp[<- W]);rw[e1,e2];refine d.mono (λj K G=>⟨.inr ⟨G.1,K⟩,λr=>?_⟩) (d.move (O:=λj=>w.heap.size<=j/\j<I.heap.size) F1.size (λj K G=>F1.block j K (λr=>?_)) (d.mono (λj K G=>⟨G,K⟩) hr))
   ·rcases J j r with z|z
    ·have:=V j z;omega
    ·omega
   ·have:=V j r;omega
 ·rcases A with q|q
  ·have:=(h2 b q).2;omega
  ·exact q.2
theorem Yr.rowDApp{α:Type}{d:Ty α}{T:TypeId}{v c:Value}{xs:List α}{x:α}{q:World}{n:Nat}(h:Yr H l w)(i:Nat)(hi:i<l.length)(e:l[i]=Go.Proofs.YtlfoalomaofejaaGreatDoor.rowD d T v xs)(L:xs.length=n)(M:H<=w.heap.size)(G:Zf w q)(J:d.R q (λj=>w.heap.size<=j) x [c]) :
  ∃ cs:List Value,q.ownsRow 0 T 1 v n cs/\∀ (o:Obj) (w':World) (z:Value),(q.alloc o).grownBy w' v.ownBlock->w'.ownsRow 0 T 1 z (n+1) (cs++[c])->(z.ownBlock=v.ownBlock\/z.ownBlock=some (q.alloc o).heap.size)->Yr H (l.set i (Go.Proofs.YtlfoalomaofejaaGreatDoor.rowD d T z (xs++[x]))) w'/\H<=w'.heap.size:=by
 obtain⟨cs,_,h2,_,h4⟩:=h.rowD i hi e M G J;subst L;refine⟨cs,h2,λo w' z I K A=>⟨h4 _ w' z ((Fl q).alloc o) I K A,?_⟩⟩;have h1:=I.size;have h3:=G.size;have V:(q.alloc o).heap.size=q.heap.size+1:=Za _ _;omega
end
end Go.Proofs.YtlfoalomaofejaaGreatDoor
section
namespace TR
abbrev F:=Nat->Int
def up(f:F)(i:Nat)(v:Int):F:=λj=>if j=i then v else f j
theorem Y7(f:F)(i:Nat)(v:Int):up f i v i=v:=by simp[up]
theorem Yh(f:F){i j:Nat}(v:Int)(h:j≠i):up f i v j=f j:=by simp[up,h]
def T4(n:Nat)(U:Nat->Prop)(y:Nat):Prop:=y<n/\¬ U y/\∀ z,z<y->U z
def Sf(n:Nat)(U:Nat->Prop)(x:Nat):Prop:=x<n/\¬ U x/\∀ z,x<z->z<n->U z
def Vx(n:Nat)(U:Nat->Prop)(x y:Nat):Prop :=
 (x<y/\y<n/\¬ U x/\¬ U y/\∀ z,x<z->z<y->U z)\/(Sf n U x/\T4 n U y)
theorem T4.uniq{n:Nat}{U:Nat->Prop}{x y:Nat}(h:T4 n U x)(k:T4 n U y):x=y:=by
 rcases Nat.lt_trichotomy x y with e|e|e
 ·exact absurd (k.2.2 x e) h.2.1
 ·exact e
 ·exact absurd (h.2.2 y e) k.2.1
theorem Sf.uniq{n:Nat}{U:Nat->Prop}{x y:Nat}(h:Sf n U x)(k:Sf n U y):x=y:=by
 rcases Nat.lt_trichotomy x y with e|e|e
 ·exact absurd (h.2.2 y e k.1) k.2.1
 ·exact e
 ·exact absurd (k.2.2 x e h.1) h.2.1
theorem Vx.lt{n:Nat}{U:Nat->Prop}{x y:Nat}(h:Vx n U x y):x<n/\y<n/\¬ U x/\¬ U y:=by
 rcases h with ⟨a,b,c,d,_⟩|⟨a,b⟩
 ·exact⟨Om,b,c,d⟩
 ·exact⟨a.1,b.1,a.2.1,b.2.1⟩
theorem Vx.uniq{n:Nat}{U:Nat->Prop}{x y y':Nat}(h:Vx n U x y)(k:Vx n U x y'):y=y':=by
 have hl:=h.lt;have J:=k.lt;rcases h with ⟨a,b,c,d,e⟩|⟨a,b⟩
 ·rcases k with ⟨z,A,c',G,I⟩|⟨z,A⟩
  ·rcases Nat.lt_trichotomy y y' with q|q|q
   ·exact absurd (I y a q) d
   ·exact q
   ·exact absurd (e y' z q) G
  ·exact absurd (z.2.2 y a b) d
 ·rcases k with ⟨z,A,c',G,I⟩|⟨z,A⟩
  ·exact absurd (a.2.2 y' z A) G
  ·exact b.uniq A
theorem Vx.inj{n:Nat}{U:Nat->Prop}{x x' y:Nat}(h:Vx n U x y)(k:Vx n U x' y):x=x':=by
 rcases h with ⟨a,b,c,d,e⟩|⟨a,b⟩
 ·rcases k with ⟨z,A,c',I,G⟩|⟨z,A⟩
  ·rcases Nat.lt_trichotomy x x' with q|q|q
   ·exact absurd (e x' q z) c'
   ·exact q
   ·exact absurd (G x q a) c
  ·exact absurd (A.2.2 x a) c
 ·rcases k with ⟨z,A,c',I,G⟩|⟨z,A⟩
  ·exact absurd (b.2.2 x' z) c'
  ·exact a.uniq z
structure FreeOk(n:Nat)(B C:F)(U:Nat->Prop):Prop where
 pos:256<=n
 root:U 0
 lt:∀ x,U x->x<n
 used:∀ x,U x->x≠0->0<=C x
 nxt:∀ x,x<n->¬ U x->∃ y:Nat,C x = -(y:Int)/\Vx n U x y
 prv:∀ x,x<n->¬ U x->∃ y:Nat,B x = -(y:Int)/\Vx n U y x
 head:∃ y:Nat,C 0 = -(y:Int)/\T4 n U y
section
variable{n:Nat}{B C:F}{U:Nat->Prop}
theorem FreeOk.free_iff(g:FreeOk n B C U){x:Nat}(A:x<n)(G:x≠0):C x<0↔¬ U x:=by
 constructor
 ·intro h q;have:=g.used x q G;omega
 ·intro q;obtain⟨y,I,z⟩:=g.nxt x A q;have:=z.lt;have h1:y≠0:=λe=>this.2.2.2 (e▸g.root)
  omega
theorem FreeOk.remove(g:FreeOk n B C U){p:Nat}(hp:p<n)(hu:¬ U p)(ac:B p≠C p){c:Int}(hc:0<=c) :
  ∃ G A:Nat,C p = -(G:Int)/\B p = -(A:Int)/\G<n/\A<n/\G≠0/\A≠0/\G≠p/\A≠p/\¬ U G/\¬ U A /\
   FreeOk n (up B G (B p)) (up (up (up C 0 (if -(p:Int)=C 0 then C p else C 0)) A (C p)) p c) (λx=>U x\/x=p):=by
 obtain⟨G,hC,Z⟩:=g.nxt p hp hu;obtain⟨A,hB,hP⟩:=g.prv p hp hu;have Y:=Z.lt;have X:=hP.lt
 have ae:G≠A:=by
  intro e;apply ac;rw[hC,hB,e]
 have I:G≠p:=by
  intro e;subst e;have:=Z.inj hP;omega
 have M:A≠p:=by
  intro e;subst e;have:=Z.uniq hP;omega
 have ad:G≠0:=λe=>Y.2.2.2 (e▸g.root)
 have aa:A≠0:=λe=>X.2.2.1 (e▸g.root)
 have ab:p≠0:=λe=>hu (e▸g.root)
 have L:∀ x y,x≠p->y≠p->Vx n U x y->Vx n (λx=>U x\/x=p) x y:=by
  intro x y hx W h;rcases h with ⟨a,b,c,d,e⟩|⟨a,b⟩
  ·exact .inl ⟨a,b,λh=>h.elim c hx,λh=>h.elim d W,λz h1 h2=>.inl (e z h1 h2)⟩
  ·exact .inr ⟨⟨a.1,λh=>h.elim a.2.1 hx,λz h1 h2=>.inl (a.2.2 z h1 h2)⟩,⟨b.1,λh=>h.elim b.2.1 W,λz h1=>.inl (b.2.2 z h1)⟩⟩
 have V:Vx n (λx=>U x\/x=p) A G:=by
  rcases hP with ⟨a,b,c,d,e⟩|⟨a,b⟩
  ·rcases Z with ⟨a',J,c',d',e'⟩|⟨a',J⟩
   ·refine .inl ⟨Om,J,λh=>h.elim c M,λh=>h.elim d' I,λz h1 h2=>?_⟩;rcases Nat.lt_trichotomy z p with q|q|q
    ·exact .inl (e z h1 q)
    ·exact .inr q
    ·exact .inl (e' z q h2)
   ·refine .inr ⟨⟨Om,λh=>h.elim c M,λz h1 h2=>?_⟩,⟨J.1,λh=>h.elim J.2.1 I,λz h1=>.inl (J.2.2 z h1)⟩⟩;rcases Nat.lt_trichotomy z p with q|q|q
    ·exact .inl (e z h1 q)
    ·exact .inr q
    ·exact .inl (a'.2.2 z q h2)
  ·rcases Z with ⟨a',J,c',d',e'⟩|⟨a',J⟩
   ·refine .inr ⟨⟨a.1,λh=>h.elim a.2.1 M,λz h1 h2=>.inl (a.2.2 z h1 h2)⟩,⟨J,λh=>h.elim d' I,λz h1=>?_⟩⟩;rcases Nat.lt_trichotomy z p with q|q|q
    ·exact .inl (b.2.2 z q)
    ·exact .inr q
    ·exact .inl (e' z q h1)
   ·exact absurd (a.uniq a') M
 refine⟨G,A,hC,hB,Y.2.1,X.1,ad,aa,I,M,Y.2.2.2,X.2.2.1,?_⟩;refine⟨g.pos,.inl g.root,?_,?_,?_,?_,?_⟩
 ·rintro x (h|h)
  ·exact g.lt x h
  ·omega
 ·rintro x h h0;rcases h with h|h
  ·have h1:x≠p:=λe=>hu (e▸h)
   have h2:x≠A:=λe=>X.2.2.1 (e▸h)
   rw[Yh _ _ h1,Yh _ _ h2,Yh _ _ h0];exact g.used x h h0
  ·rw[h,Y7];exact hc
 ·intro x hx h;have h1:x≠p:=λe=>h (.inr e)
  have h2:¬ U x:=λe=>h (.inl e)
  have h0:x≠0:=λe=>h2 (e▸g.root)
  rw[Yh _ _ h1];by_cases e:x=A
  ·subst e;rw[Y7];exact⟨G,hC,V⟩
  ·rw[Yh _ _ e,Yh _ _ h0];obtain⟨y,W,K⟩:=g.nxt x hx h2;refine⟨y,W,L x y h1 (λq=>?_) K⟩;subst q;exact e (K.inj hP)
 ·intro x hx h;have h1:x≠p:=λe=>h (.inr e)
  have h2:¬ U x:=λe=>h (.inl e)
  by_cases e:x=G
  ·subst e;rw[Y7];exact⟨A,hB,V⟩
  ·rw[Yh _ _ e];obtain⟨y,W,K⟩:=g.prv x hx h2;refine⟨y,W,L y x (λq=>?_) h1 K⟩;subst q;exact e (K.uniq Z)
 ·rw[Yh _ _ (Ne.symm ab),Yh _ _ (Ne.symm aa),Y7];obtain⟨y,W,hf⟩:=g.head;by_cases e:y=p
  ·subst e;rw[if_pos W.symm];refine⟨G,hC,?_⟩;rcases Z with ⟨a',J,c',d',e'⟩|⟨a',J⟩
   ·refine⟨J,λh=>h.elim d' I,λz h1=>?_⟩;rcases Nat.lt_trichotomy z y with q|q|q
    ·exact .inl (hf.2.2 z q)
    ·exact .inr q
    ·exact .inl (e' z q h1)
   ·exact absurd (J.uniq hf) I
  ·rw[if_neg Om];exact⟨y,W,hf.1,λh=>h.elim hf.2.1 e,λz h1=>.inl (hf.2.2 z h1)⟩
theorem FreeOk.two(g:FreeOk n B C U){p:Nat}(hp:p<n)(G:¬ U p)(M:B p=C p):∃ y,∀ x,x<n->¬ U x->x=p\/x=y:=by
 obtain⟨y,V,K⟩:=g.nxt p hp G;obtain⟨y',hB,J⟩:=g.prv p hp G;obtain rfl:y=y':=Om
 refine⟨y,λx z h=>?_⟩;rcases K with ⟨a,b,c,d,e⟩|⟨a,b⟩<;>rcases J with ⟨I,A,c',W,L⟩|⟨I,A⟩
 ·omega
 ·rcases Nat.lt_trichotomy x p with q|q|q
  ·exact absurd (A.2.2 x q) h
  ·exact .inl q
  ·rcases Nat.lt_trichotomy x y with r|r|r
   ·exact absurd (e x q r) h
   ·exact .inr r
   ·exact absurd (I.2.2 x r z) h
 ·rcases Nat.lt_trichotomy x p with q|q|q
  ·rcases Nat.lt_trichotomy x y with r|r|r
   ·exact absurd (b.2.2 x r) h
   ·exact .inr r
   ·exact absurd (L x r q) h
  ·exact .inl q
  ·exact absurd (a.2.2 x q z) h
 ·rcases Nat.lt_trichotomy x p with q|q|q
  ·exact absurd (A.2.2 x q) h
  ·exact .inl q
  ·exact absurd (a.2.2 x q z) h
theorem FreeOk.expand(g:FreeOk n B C U) :
  ∃ st G:Nat,C 0 = -(st:Int)/\B st = -(G:Int)/\st<n/\G<n/\st≠0/\G≠0/\Sf n U G/\T4 n U st /\
   ∀ W V:F,(∀ x,x<n->W x=B x)->(∀ x,x<n->V x=C x)->(∀ x,n<=x->x<2*n->W x = -((x:Int)-1))->(∀ x,n<=x->x<2*n->V x = -((x:Int)+1)) ->
   FreeOk (2*n) (up (up W n (-(G:Int))) st (-((2*n:Nat)-1:Int))) (up (up V G (-(n:Int))) (2*n-1) (-(st:Int))) U:=by
 obtain⟨st,M,I⟩:=g.head;obtain⟨G,Y,hE⟩:=g.prv st I.1 I.2.1;have ac:=g.pos;have h0:st≠0:=λe=>I.2.1 (e▸g.root)
 have hl:Sf n U G:=by
  rcases hE with ⟨a,b,c,d,e⟩|⟨a,b⟩
  ·exact absurd (I.2.2 G a) c
  ·exact a
 have h1:G≠0:=λe=>hl.2.1 (e▸g.root)
 have A:∀ x,n<=x->¬ U x:=λx K h=>by have:=g.lt x h;omega
 refine⟨st,G,M,Y,I.1,hl.1,h0,h1,hl,I,λW V hB hC aa Z=>?_⟩;have hF:T4 (2*n) U st:=⟨by have:=I.1;omega,I.2.1,I.2.2⟩;have hL:Sf (2*n) U (2*n-1):=⟨Om,A _ Om,λz h1 h2=>Om⟩;have ad:=hl.1;have ab:=I.1;refine⟨Om,g.root,λx h=>by have:=g.lt x h;omega,?_,?_,?_,?_⟩
 ·intro x h K;have:=g.lt x h;rw[Yh _ _ Om,Yh _ _ (show x≠G from by rintro rfl;exact hl.2.1 h),hC x this];exact g.used x h K
 ·intro x K h;by_cases e:x=2*n-1
  ·subst e;rw[Y7];exact⟨st,rfl,.inr ⟨hL,hF⟩⟩
  ·rw[Yh _ _ e];by_cases L:x=G
   ·subst L;rw[Y7];refine⟨n,rfl,.inl ⟨hl.1,Om,h,A n (Nl _),λz a b=>hl.2.2 z a b⟩⟩
   ·rw[Yh _ _ L];rcases Nat.lt_or_ge x n with q|q
    ·rw[hC x q];obtain⟨y,X,J⟩:=g.nxt x q h;refine⟨y,X,?_⟩;rcases J with ⟨a,b,c,d,e⟩|⟨a,b⟩
     ·exact .inl ⟨a,Om,c,d,e⟩
     ·exact absurd (a.uniq hl) L
    ·rw[Z x q K];exact⟨x+1,Om,.inl ⟨Om,Om,h,A _ Om,λz a b=>Om⟩⟩
 ·intro x K h;by_cases e:x=st
  ·subst e;rw[Y7];exact⟨2*n-1,Om,.inr ⟨hL,hF⟩⟩
  ·rw[Yh _ _ e];by_cases L:x=n
   ·subst L;rw[Y7];exact⟨G,rfl,.inl ⟨hl.1,Om,hl.2.1,h,λz a b=>hl.2.2 z a b⟩⟩
   ·rw[Yh _ _ L];rcases Nat.lt_or_ge x n with q|q
    ·rw[hB x q];obtain⟨y,X,J⟩:=g.prv x q h;refine⟨y,X,?_⟩;rcases J with ⟨a,b,c,d,e2⟩|⟨a,b⟩
     ·exact .inl ⟨a,Om,c,d,e2⟩
     ·exact absurd (b.uniq I) e
    ·rw[aa x q K];exact⟨x-1,Om,.inl ⟨Om,Om,A _ Om,h,λz a b=>Om⟩⟩
 ·rw[Yh _ _ Om,Yh _ _ (Ne.symm h1),hC 0 Om];exact⟨st,M,hF⟩
theorem FreeOk.last_of(g:FreeOk n B C U){f:Nat}(q:f<n)(h:¬ U f)(J:C f=C 0):Sf n U f:=by
 obtain⟨y,I,A⟩:=g.nxt f q h;obtain⟨z,G,hF⟩:=g.head;obtain rfl:y=z:=Om
 rcases A with ⟨a,b,c,d,e⟩|⟨a,_⟩
 ·exact absurd (hF.2.2 f a) h
 ·exact a
def Nxt(n:Nat)(U:Nat->Prop)(f y:Nat):Prop:=f<y/\y<n/\¬ U y/\(y=f+1\/U (y-1))
theorem FreeOk.next_first(g:FreeOk n B C U):∃ y:Nat,C 0 = -(y:Int)/\Nxt n U 0 y:=by
 obtain⟨y,h,hF⟩:=g.head;have q:y≠0:=λe=>hF.2.1 (e▸g.root)
 exact⟨y,h,Om,hF.1,hF.2.1,.inr (hF.2.2 _ Om)⟩
theorem Vx.nxt{f y:Nat}(h:Vx n U f y)(hl:¬ Sf n U f):Nxt n U f y:=by
 rcases h with ⟨a,b,c,d,e⟩|⟨a,_⟩
 ·refine⟨a,b,d,?_⟩;by_cases q:y=f+1
  ·exact .inl q
  ·exact .inr (e _ Om Om)
 ·exact absurd a hl
theorem FreeOk.next_more(g:FreeOk n B C U){f:Nat}(I:f<n)(G:¬ U f)(J:C f≠C 0):∃ y:Nat,C f = -(y:Int)/\Nxt n U f y:=by
 obtain⟨y,h,q⟩:=g.nxt f I G;refine⟨y,h,q.nxt λhl=>?_⟩;obtain⟨z,A,hF⟩:=g.head
 have:y=z:=by
  rcases q with ⟨a,b,c,d,e⟩|⟨_,b⟩
  ·exact absurd (hl.2.2 y a b) d
  ·exact b.uniq hF
 exact J (by rw[h,A,this])
theorem FreeOk.next_grown{n':Nat}{B' C':F}(g:FreeOk n' B' C' U){f:Nat}(G:f<n)(z:¬ U f)(A:n<n')(h:∀ x,U x->x<n):∃ y:Nat,C' f = -(y:Int)/\Nxt n' U f y:=by
 obtain⟨y,q,I⟩:=g.nxt f Om z;exact⟨y,q,I.nxt λhl=>by have:=h _ (hl.2.2 n G A);omega⟩
end
end TR
end
section
namespace TR
abbrev Key:=List UInt8×Nat
def hd(k:Key):UInt8:=k.1.headD 0
def strip(c:UInt8)(ks:List Key):List Key:=ks.filterMap λk=>match k.1 with|[]=>none|a::t=>if a=c then some (t,k.2) else none
def Vz(ks:List Key):Option Nat:=(ks.find? λk=>k.1.isEmpty).map (·.2)
inductive Sub (n:Nat) (B C:F) (T:Nat->Prop):Nat->List Key->Prop
 | mk (p:Nat) (ks:List Key) (b:Nat) (hT:T p) (hb:B p=(b:Int)) (h1:1<=b)
   (hch:∀ c:UInt8,(b+c.toNat<n/\C (b+c.toNat)=(p:Int))↔∃ k∈ks,hd k=c)
   (hend:∀ i,Vz ks=some i->B b = -(i:Int))
   (hsub:∀ c:UInt8,c≠0->(∃ k∈ks,hd k=c)->Sub n B C T (b+c.toNat) (strip c ks)) :
   Sub n B C T p ks
theorem Sub.keep{n n':Nat}{B C B' C':F}{T G:Nat->Prop}{p:Nat}{ks:List Key}(h:Sub n B C T p ks)
  (J:∀ x,T x->G x)
  (hB:∀ x,T x->B' x=B x)
  (K:∀ p x,T p->x<n->C x=(p:Int)->B' x=B x)
  (L:∀ q,T q->∀ x,(x<n'/\C' x=(q:Int))↔(x<n/\C x=(q:Int))):Sub n' B' C' G p ks:=by
 induction h with
 | mk p ks b hTp hb h1 hch hend hsub ih =>
  refine .mk p ks b (J p hTp) ((hB p hTp).trans hb) h1 (λc=>(L p hTp _).trans (hch c)) (λi hi=>?_) (λc z I=>ih c z I)
  have z:∃ k∈ks,hd k=0:=by
   unfold Vz at hi;obtain⟨k,A,_⟩:=Option.map_eq_some_iff.1 hi;have:=List.find?_some A;refine⟨k,List.mem_of_find?_eq_some A,?_⟩;have h2:k.1=[]:=(by simpa using this);simp[hd,h2]
  have:=(hch 0).2 z;simp at this;rw[K p b hTp this.1 this.2];exact hend i hi
structure Gg(p:Nat)(n:Nat)(B C:F)(U:Nat->Prop)(n':Nat)(B' C':F)(U':Nat->Prop):Prop where
 le:n<=n'
 sub:∀ x,U x->U' x
 base:∀ x,U x->x≠p->B' x=B x
 check:∀ x,U x->x≠0->C' x=C x
 fresh:∀ x,U' x->¬ U x->∃ y:Nat,C' x=(y:Int)/\(y=p\/(U' y/\¬ U y))
theorem Gg.step{p q n M L:Nat}{B C B1 Z B2 Y:F}{U I X:Nat->Prop}(h:Gg p n B C U M B1 Z I)(k:Gg q M B1 Z I L B2 Y X)(r:U 0)
  (V:q=p\/(I q/\¬ U q)):Gg p n B C U L B2 Y X:=by
 refine⟨Nt h.le k.le,λx z=>k.sub x (h.sub x z),λx z hp=>?_,λx z G=>?_,λx z W=>?_⟩
 ·rw[k.base x (h.sub x z) (λe=>V.elim (λK=>hp (e.trans K)) (λK=>K.2 (e▸z))),h.base x z hp]
 ·rw[k.check x (h.sub x z) G,h.check x z G]
 ·by_cases h1:I x
  ·have G:x≠0:=λe=>W (e▸r)
   obtain⟨y,J,A⟩:=h.fresh x h1 W;refine⟨y,(k.check x h1 G).trans J,A.imp id (λa=>⟨k.sub y a.1,a.2⟩)⟩
  ·obtain⟨y,J,A⟩:=k.fresh x z h1;refine⟨y,J,?_⟩;rcases A with e|⟨a,b⟩
   ·subst e;rcases V with e|e
    ·exact .inl e
    ·exact .inr ⟨k.sub y e.1,e.2⟩
   ·exact .inr ⟨a,λh'=>b (h.sub y h')⟩
theorem Gg.checks{p n n':Nat}{B C B' C':F}{U U':Nat->Prop}(h:Gg p n B C U n' B' C' U')(g:FreeOk n B C U)(M:FreeOk n' B' C' U'){q:Nat}(W:U q)(hp:q≠p)(x:Nat) :
  (x<n'/\C' x=(q:Int))↔(x<n/\C x=(q:Int)):=by
 have z:∀ {n:Nat} {B C:F} {U:Nat->Prop},FreeOk n B C U->∀ x,x<n->(x=0\/¬ U x)->C x=(q:Int)->False:=by
  intro n B C U g x G h A;rcases h with h|h
  ·subst h;obtain⟨y,V,X⟩:=g.head;have:y≠0:=λe=>X.2.1 (e▸g.root)
   omega
  ·have I:x≠0:=λe=>h (e▸g.root)
   have:=(g.free_iff G I).2 h;omega
 constructor
 ·rintro⟨G,A⟩;by_cases I:x=0
  ·exact (z M x G (.inl I) A).elim
  by_cases J:U x
  ·rw[h.check x J I]at A;exact⟨g.lt x J,A⟩
  ·by_cases K:U' x
   ·obtain⟨y,V,L⟩:=h.fresh x K J;have e:y=q:=Om;subst e;rcases L with e|e
    ·exact (hp e).elim
    ·exact (e.2 W).elim
   ·exact (z M x G (.inr K) A).elim
 ·rintro⟨G,A⟩;by_cases I:x=0
  ·exact (z g x G (.inl I) A).elim
  by_cases J:U x
  ·rw[<- h.check x J I]at A;exact⟨Nat.lt_of_lt_of_le G h.le,A⟩
  ·exact (z g x G (.inr J) A).elim
def Few(U:Nat->Prop)(K:Nat):Prop:=∃ L:List Nat,L.length<=K/\∀ x,U x->x∈L
theorem I9:∀ (n:Nat) (L:List Nat),L.length<n->∃ x,x<n/\x ∉ L
 | 0,L,h=>by omega
 | n+1,L,h=>by
  by_cases q:n∈L
  ·obtain⟨x,A,hl⟩:=I9 n (L.erase n) (by rw[List.length_erase_of_mem q];have:=List.length_pos_of_mem q;omega);exact⟨x,Om,λz=>hl ((List.mem_erase_of_ne Om).2 z)⟩
  ·exact⟨n,Om,q⟩
theorem Few.mono{U:Nat->Prop}{K q:Nat}(h:Few U K)(A:K<=q):Few U q:=by
 obtain⟨L,hl,z⟩:=h;exact⟨L,Om,z⟩
theorem FreeOk.ne_of_few{n:Nat}{B C:F}{U:Nat->Prop}(g:FreeOk n B C U){K p:Nat}(h:Few U K)(J:K+3<=n)(hp:p<n)(G:¬ U p):B p≠C p:=by
 intro e;obtain⟨y,z⟩:=g.two hp G e;obtain⟨L,hl,I⟩:=h;obtain⟨x,A,q⟩:=I9 n (p::y::L) (by simp;omega);simp only[List.mem_cons,not_or]at q;rcases z x A (λh=>q.2.2 (I x h)) with h|h
 ·exact q.1 h
 ·exact q.2.1 h
def Ub:List Key->List UInt8->Nat->List (Nat×Nat)
 | _,[],_=>[]
 | ks,c::t,i=>if c=0 then [] else if (strip c ks)=[] then [] else ((Vz (strip c ks)).map λe=>(e,i+1)).toList++Ub (strip c ks) t (i+1)
theorem Nx{c:UInt8}{ks:List Key}(A:c≠0):strip c ks≠[]↔∃ k∈ks,hd k=c:=by
 unfold strip;constructor
 ·intro h;obtain⟨x,q⟩:=List.exists_mem_of_ne_nil _ h;obtain⟨k,z,q⟩:=List.mem_filterMap.1 q;refine⟨k,z,?_⟩;unfold hd
  split at q
  ·cases q
  ·rename_i a t e
   split at q
   ·rename_i ha;rw[e,<- ha];rfl
   ·cases q
 ·rintro⟨k,z,h⟩ e;have:∀ x,x ∉ List.filterMap (λk:Key=>match k.1 with|[]=>none|a::t=>if a=c then some (t,k.2) else none) ks:=by rw[e];simp
  unfold hd at h;obtain⟨s,i⟩:=k
  match s,h with
  | [],h=>exact A h.symm
  | a::t,h =>
   have G:a=c:=h;subst G;exact this (t,i) (List.mem_filterMap.2 ⟨_,z,by simp⟩)
theorem Qp{ks:List Key}:(∃ i,Vz ks=some i)↔∃ k∈ks,k.1=[]:=by
 unfold Vz;constructor
 ·rintro⟨i,h⟩;obtain⟨k,q,_⟩:=Option.map_eq_some_iff.1 h;exact⟨k,List.mem_of_find?_eq_some q,by simpa using List.find?_some q⟩
 ·rintro⟨k,q,h⟩
  cases e:ks.find? (λk=>k.1.isEmpty) with
  | some x=>exact⟨x.2,by simp⟩
  | none =>
   have:=List.find?_eq_none.1 e k q;simp[h]at this
end TR
end
namespace Go.Proofs.YtlfoalomaofejaaGreatDoor
section
open Go.RowKit TR
def Xn(n:Nat)(B C:F):List Value:=(List.range n).flatMap λi=>[.int .i32 (B i),.int .i32 (C i)]
theorem Zv(n:Nat)(B C:F):(Xn n B C).length=n*2:=by
 unfold Xn
 induction n with
 | zero=>rfl
 | succ n ih=>rw[List.range_succ,List.flatMap_append,List.length_append,ih];simp;omega
theorem Ux(n:Nat)(B C:F)(i:Nat)(hi:i<n):(Xn n B C)[i*2]?=some (.int .i32 (B i))/\(Xn n B C)[i*2+1]?=some (.int .i32 (C i)):=by
 induction n with
 | zero=>omega
 | succ n ih =>
  have e:Xn (n+1) B C=Xn n B C++[.int .i32 (B n),.int .i32 (C n)]:=by unfold Xn;rw[List.range_succ,List.flatMap_append];rfl
  rw[e];by_cases h:i<n
  ·rw[List.getElem?_append_left (by rw[Zv];omega),List.getElem?_append_left (by rw[Zv];omega)];exact ih h
  ·obtain rfl:i=n:=Om
   rw[List.getElem?_append_right (by rw[Zv];omega),List.getElem?_append_right (by rw[Zv];omega),Zv];simp
structure DA(w:World)(dp g n:Nat)(B C:F):Prop where
 ptr:w.heap[dp]?=some (.cells #[.slice (some ⟨g,0,none⟩) n n] 217 (0,0))
 arr:∃ cs:Array Value,w.heap[g]?=some (.cells cs 396 (0,0))/\cs.size=n*2/\∀ i,i<n->cs[i*2]?=some (.int .i32 (B i))/\cs[i*2+1]?=some (.int .i32 (C i))
section
variable{w w':World}{dp g n:Nat}{B C:F}
theorem DA.ne(h:DA w dp g n B C):dp≠g:=by
 rintro rfl;obtain⟨cs,h1,_⟩:=h.arr;rw[h.ptr]at h1;injection h1 with h1
 injection h1 with _ h1
 cases h1
theorem DA.pc(h:DA w dp g n B C):w.cell? ⟨dp,0,none⟩=some (.slice (some ⟨g,0,none⟩) n n):=by simp[World.cell?,h.ptr]
theorem DA.pf(h:DA w dp g n B C)(o:Nat):w.frozen? ⟨dp,o,none⟩=false:=by simp[World.frozen?,h.ptr]
theorem DA.b(h:DA w dp g n B C)(i:Nat)(hi:i<n):w.cell? ⟨g,i*2,none⟩=some (.int .i32 (B i)):=by
 obtain⟨cs,h1,_,h2⟩:=h.arr;simp[World.cell?,h1,(h2 i hi).1]
theorem DA.c(h:DA w dp g n B C)(i:Nat)(hi:i<n):w.cell? ⟨g,i*2+1,none⟩=some (.int .i32 (C i)):=by
 obtain⟨cs,h1,_,h2⟩:=h.arr;simp[World.cell?,h1,(h2 i hi).2]
theorem DA.gf(h:DA w dp g n B C)(o:Nat):w.frozen? ⟨g,o,none⟩=false:=by
 obtain⟨cs,h1,_,h2⟩:=h.arr;simp[World.frozen?,h1]
theorem DA.lt(h:DA w dp g n B C):dp<w.heap.size/\g<w.heap.size:=by
 obtain⟨cs,h1,_⟩:=h.arr;exact⟨(Gs1.1 h.ptr).1,(Gs1.1 h1).1⟩
theorem DA.keep{S:Nat->Prop}(h:DA w dp g n B C)(f:Fr S w w')(h1:¬ S dp)(h2:¬ S g):DA w' dp g n B C:=by
 obtain⟨cs,a,b⟩:=h.arr;exact⟨f.heap h.ptr h1,cs,f.heap a h2,b⟩
theorem DA.drewN(h:DA w dp g n B C)(k:Nat):DA (w.drewN k) dp g n B C:=⟨h.ptr,h.arr⟩
theorem DA.drew(h:DA w dp g n B C):DA w.drew dp g n B C:=⟨h.ptr,h.arr⟩
theorem DA.congr(h:DA w dp g n B C){B' C':F}(z:∀ i,i<n->B' i=B i)(q:∀ i,i<n->C' i=C i):DA w dp g n B' C':=by
 obtain⟨cs,h1,h2,h3⟩:=h.arr;exact⟨h.ptr,cs,h1,h2,λi hi=>by rw[z i hi,q i hi];exact h3 i hi⟩
theorem DA.setB(h:DA w dp g n B C)(i:Nat)(v:Int):DA (w.setCell ⟨g,i*2,none⟩ (.int .i32 v)) dp g n (up B i v) C:=by
 obtain⟨cs,h1,h2,h3⟩:=h.arr;refine⟨by rw[Below.heap_setCell _ _ _ _ h.ne];exact h.ptr,cs.setIfInBounds (i*2) (.int .i32 v),?_,by simpa using h2,λj q=>?_⟩
 ·simp[World.setCell,Array.getElem?_modify,h1]
 ·simp only[Array.getElem?_setIfInBounds];by_cases e:j=i
  ·subst e;rw[if_pos rfl,if_pos Om,if_neg Om,Y7];exact⟨rfl,(h3 j q).2⟩
  ·rw[if_neg Om,if_neg Om,Yh _ _ e];exact h3 j q
theorem DA.setC(h:DA w dp g n B C)(i:Nat)(v:Int):DA (w.setCell ⟨g,i*2+1,none⟩ (.int .i32 v)) dp g n B (up C i v):=by
 obtain⟨cs,h1,h2,h3⟩:=h.arr;refine⟨by rw[Below.heap_setCell _ _ _ _ h.ne];exact h.ptr,cs.setIfInBounds (i*2+1) (.int .i32 v),?_,by simpa using h2,λj q=>?_⟩
 ·simp[World.setCell,Array.getElem?_modify,h1]
 ·simp only[Array.getElem?_setIfInBounds];by_cases e:j=i
  ·subst e;rw[if_neg Om,if_pos rfl,if_pos Om,Y7];exact⟨(h3 j q).1,rfl⟩
  ·rw[if_neg Om,if_neg Om,Yh _ _ e];exact h3 j q
theorem DA.pcs(h:DA w dp g n B C)(o:Nat)(v:Value):(w.setCell ⟨g,o,none⟩ v).cell? ⟨dp,0,none⟩=some (.slice (some ⟨g,0,none⟩) n n):=by
 rw[World.cell?_setCell_other _ _ _ _ (by intro e;injection e with e;exact h.ne e.symm)];exact h.pc
theorem DA.bsc(h:DA w dp g n B C)(i:Nat)(hi:i<n)(v:Value):(w.setCell ⟨g,i*2,none⟩ v).cell? ⟨g,i*2+1,none⟩=some (.int .i32 (C i)):=by
 rw[World.cell?_setCell_other _ _ _ _ (by intro e;injection e with _ e;omega)];exact h.c i hi
theorem DA.repoint{q:Nat}(h:DA w q g n B C){x:Value}(hp:w.heap[dp]?=some (.cells #[x] 217 (0,0))):DA (w.setCell ⟨dp,0,none⟩ (.slice (some ⟨g,0,none⟩) n n)) dp g n B C:=by
 obtain⟨cs,h1,h2⟩:=h.arr
 have z:g≠dp:=by
  rintro rfl;rw[hp]at h1;injection h1 with h1
  injection h1 with _ h1
  cases h1
 refine⟨?_,cs,by rw[Below.heap_setCell _ _ _ _ z];exact h1,h2⟩;simp[World.setCell,Array.getElem?_modify,hp]
end
def two(a b:Nat):Nat->Prop:=λk=>k=a\/k=b
theorem Su{h w:World}{dp g:Nat}(f:Fr (two dp g) h w)(o:Nat)(v:Value):Fr (two dp g) h (w.setCell ⟨g,o,none⟩ v):=f.setCell _ _ (λ_=>.inr rfl)
end
section
open Go.RowKit TR
theorem Ol{P:Program}(w:World)(X Y ty q:TypeId)(g z L k:Nat)(a:Addr)(h G:Nat)(A:Array Value)(t:TypeId)(cs:List Value)
  (Z:P.underlying X=some (.slice q)) (W:(P.info? q).map (·.size)=some k)
  (hg:w.heap[g]?=some (.cells A t (0,0))) (V:h<=z) (hn:cs.length=h*k)
  (J:∀ j v,cs[j]?=some v->w.cell? (a.add j)=some v) (K:cs.length<=A.size) (h1:∀ v∈cs,v.oneCell'=true) :
  (Builtin.copy_ #[X,Y] ty #[.slice (some ⟨g,0,none⟩) z L,.slice (some a) h G]).run P w =
   .ok (goInt h) (w.setRow g (cs++A.toList.drop cs.length).toArray):=by
 have hl:=run_loadCells_list (P:=P) w a cs J;have I:=run_storeCells_at P g 0 t cs 0 A w hg (by simpa using K) h1;have hm:Nat.min h z=h:=Nat.min_eq_left V
 cases M:P.info? q with
 | none=>simp[M]at W
 | some i =>
  have hi:i.size=k:=by simpa [M] using W
  simp only[Nat.zero_add,List.take_zero,List.nil_append]at I;simp[Builtin.copy_,run_underlying Z,Builtin.lenOf,Builtin.firstCells,sizeOf,typeInfo,M,hi,hm,<- hn,hl,I]
theorem Zdv{w:World}{dp g n:Nat}{B C:F}(h:DA w dp g n B C):∀ j v,(Xn n B C)[j]?=some v->w.cell? ((⟨g,0,none⟩:Addr).add j)=some v:=by
 intro j v q
 have A:j<n*2:=by
  rw[<- Zv n B C];exact (Gl.1 q).1
 have z:(⟨g,0,none⟩:Addr).add j=⟨g,j,none⟩:=by unfold Addr.add;split<;>simp_all
 rw[z];rcases Nat.mod_two_eq_zero_or_one j with e|e
 ·obtain⟨i,rfl⟩:∃ i,j=i*2:=⟨j / 2,Om⟩;rw[(Ux n B C i Om).1]at q;rw[h.b i Om];exact q
 ·obtain⟨i,rfl⟩:∃ i,j=i*2+1:=⟨j / 2,Om⟩;rw[(Ux n B C i Om).2]at q;rw[h.c i Om];exact q
theorem Kw(n:Nat)(B C:F):∀ v∈Xn n B C,v.oneCell'=true:=by
 intro v q;obtain⟨i,_,h⟩:=List.mem_flatMap.1 q;simp at h;rcases h with rfl|rfl<;>rfl
theorem copied{w:World}{n q A m:Nat}{B C B' C':F}(K:n<=m){h:Array Value}
  (ptr:w.heap[q]?=some (.cells #[.slice (some ⟨A,0,none⟩) m m] 217 (0,0)))
  (z:w.heap[A]?=some (.cells h 396 (0,0))) (J:h.size=m*2) (I:∀ i,i<m->h[i*2]?=some (.int .i32 (B' i))/\h[i*2+1]?=some (.int .i32 (C' i))) :
  DA (w.setRow A (Xn n B C++h.toList.drop (Xn n B C).length).toArray) q A m (λi=>if i<n then B i else B' i) (λi=>if i<n then C i else C' i):=by
 have G:q≠A:=by
  rintro rfl;rw[ptr]at z;injection z with z
  injection z with _ z
  cases z
 refine⟨by rw[setRow_other _ _ _ _ G];exact ptr,_,setRow_heap w A h _ _ (0,0) z,?_,λi hi=>?_⟩
 ·rw[List.size_toArray,List.length_append,List.length_drop,Zv,Array.length_toList,J];omega
 ·by_cases e:i<n
  ·simp only[if_pos e,List.getElem?_toArray];rw[List.getElem?_append_left (by rw[Zv];omega),List.getElem?_append_left (by rw[Zv];omega)];exact Ux n B C i e
  ·simp only[if_neg e,List.getElem?_toArray];rw[List.getElem?_append_right (by rw[Zv];omega),List.getElem?_append_right (by rw[Zv];omega),List.getElem?_drop,List.getElem?_drop,Zv,(Om:n*2+(i*2-n*2)=i*2),(Om:n*2+(i*2+1-n*2)=i*2+1),Array.getElem?_toList,Array.getElem?_toList];exact I i hi
theorem Znq:(Tryz.prog.info? 396).map (λi=>(i.zero,i.size,i.bytes))=some (some (.agg #[.int .i32 0,.int .i32 0]),2,8):=Kr
theorem Zig:(Tryz.prog.info? 396).map (·.size)=some 2:=Kr
theorem Ce(m:Nat)(A:m<=1073741824):∀ W:World,(Instr.makeSlice 217 (.int .i64 (m:Int)) (.int .i64 (m:Int))).run Tryz.prog W =
  .ok (.slice (some ⟨W.heap.size,0,none⟩) m m) (W.alloc (.cells (madeCells #[.int .i32 0,.int .i32 0] (m*2)) 396)):=by
 intro W;obtain⟨i,hi,h,q,z⟩:=info_parts Znq;have:=run_make (P:=Tryz.prog) W 217 396 i _ Tryz.underlying217 hi h .i64 .i64 m m Om Om (by rw[z];omega) Om;rw[q]at this;simpa [Value.cells] using this
def Zk3(w:World)(dp g n:Nat)(B C:F)(i:Nat)(wr:World):Prop :=
 ∃ q h,DA wr w.heap.size (w.heap.size+1) (n*2) q h/\DA wr dp g n B C/\Zf w wr/\(∀ x,x<n->q x=B x/\h x=C x)/\∀ x,n<=x->x<i->q x = -((x:Int)-1)/\h x = -((x:Int)+1)
theorem I8(w:World)(dp g n:Nat)(B C:F)(U:Nat->Prop)(h:DA w dp g n B C)(gd:FreeOk n B C U)(hn:n<=268435456) :
  Calls Tryz.prog 291 #[.pointer (some ⟨dp,0,none⟩)] w λe w'=>e=.returned (.tuple #[])/\∃ g' B' C',w.heap.size<=g'/\DA w' dp g' (2*n) B' C'/\FreeOk (2*n) B' C' U /\
   Fr (λk=>k=dp) w w'/\∀ x,U x->B' x=B x/\(x≠0->C' x=C x):=by
 have p0:=h.pc;have f0:=h.pf 0;have ah:=gd.pos
 have ad:∀ W:World,(Instr.makeSlice 217 (.int .i64 ((n:Int)*2)) (.int .i64 ((n:Int)*2))).run Tryz.prog W =
   .ok (.slice (some ⟨W.heap.size,0,none⟩) (n*2) (n*2)) (W.alloc (.cells (madeCells #[.int .i32 0,.int .i32 0] (n*2*2)) 396)):=by
  intro W;have:=Ce (n*2) Om W;rwa[(Om:((n*2:Nat):Int)=(n:Int)*2)]at this
 have HH:=Hd h;have HG:=Hd gd;clear h gd;go_enter Tryz.func291,Tryz.ntmps291
 go_wp2_with fail
 generalize hW:World.alloc _ _=W;have hE:Zf w W:=by rw[<- hW];exact ((Fl _).alloc _).alloc _
 have D1:DA W dp g n B C:=HH.out.keep hE id id
 have D2:DA W w.heap.size (w.heap.size+1) (n*2) (λ_=>0) (λ_=>0):=by
  refine⟨by rw[<- hW,alloc_old _ _ (by rw[Za];omega),alloc_at],madeCells #[.int .i32 0,.int .i32 0] (n*2*2),by rw[<- hW];exact alloc_at' _ _ (by rw[Za]),by simp[size_madeCells],λi hi=>?_⟩;have h0:i*2<n*2*2:=Om
  have h1:i*2+1<n*2*2:=Om
  have e0:i*2 % 2=0:=Om
  have e1:(i*2+1) % 2=1:=Om
  simp[madeCells,h0,h1,e0,e1]
 have HE:=Hd hE;clear hW hE;have q1:=D2.pc;have q0:=D1.pc;refine Ul 6 Kr Kr ?_;simp only[List.take_succ_cons,List.take_zero,List.drop_succ_cons,List.drop_zero]
 repeat still_step
 refine wpStill_nil ?_;obtain⟨ab,G,M,q⟩:=D2.arr
 have af:∀ ty,(Builtin.copy_ #[217,217] ty #[.slice (some ⟨w.heap.size+1,0,none⟩) (n*2) (n*2),.slice (some ⟨g,0,none⟩) n n]).run Tryz.prog W.drew=_:=λty =>
  Ol W.drew _ _ ty _ _ _ _ 2 ⟨g,0,none⟩ n n ab _ (Xn n B C) Tryz.underlying217 Zig G Om (Zv _ _ _) (Zdv D1.drew) (by rw[Zv];omega) (Kw _ _ _)
 have D3:=copied (B:=B) (C:=C) ((Om:n<=n*2)) D2.drew.ptr G M q
 have HI:Zk3 w dp g n B C n (W.drew.setRow (w.heap.size+1) (Xn n B C++ab.toList.drop (Xn n B C).length).toArray) :=
  ⟨_,_,D3,HH.out.keep (HE.out.drew.setRow _ _ (λh=>Om)) id id,HE.out.drew.setRow _ _ (λh=>Om),λx z=>⟨if_pos z,if_pos z⟩,λx h1 h2=>Om⟩
 go_wp2_with fail
 generalize World.setRow _ _ _=W1 at HI⊢;clear D1 D2 HE q1 q0 G M q af D3 p0 f0 ad;have ag:=Hd HI;clear HI
 go_loopw [5] (λv wr=>∃ i:Nat,n<=i/\i<=n*2/\v=.int .i64 i/\Hid (Zk3 w dp g n B C i wr)) (λv _=>n*2-(intOf v).toNat)
 case atStart=>exact⟨n,Nl _,Om,rfl,ag⟩
 case round =>
  obtain⟨i,am,al,rfl,HR⟩:=hrel;obtain⟨Bi,Ci,D,I,E,A,J⟩:=HR.out;by_cases X:i<n*2
  ·have q1:=D.pc;have q2:=D.pcs (i*2);have b1:=D.b i X;have c1:=D.bsc i X;have f1:=D.gf (i*2);have f2:=D.gf (i*2+1);have HS:=Hd (Ai1 D (Ai1 I (Ai1 E (Ai1 A J))));clear D I E A J HR
   go_wp2
   go_roundw
   case rel =>
    obtain⟨D,I,E,A,J⟩:=HS.out;refine⟨i+1,Om,Om,by go_num,(show Hid _ from⟨_,_,(D.setB i _).setC i _,I.keep ((Fr.refl (λk=>k=w.heap.size+1) _).setCell _ _ (λ_=>rfl) |>.setCell _ _ (λ_=>rfl)) ?_ ?_,(E.setCell _ _ (λh=>absurd h (Nat.not_lt.2 (Nat.le_succ _)))).setCell _ _ (λh=>absurd h (Nat.not_lt.2 (Nat.le_succ _))),λx z=>?_,λx h1 h2=>?_⟩)⟩
    ·have:=(HH.out.lt).1;omega
    ·have:=(HH.out.lt).2;omega
    ·rw[Yh _ _ Om,Yh _ _ Om];exact A x z
    ·by_cases e:x=i
     ·subst e;rw[Y7,Y7];exact⟨rfl,rfl⟩
     ·rw[Yh _ _ e,Yh _ _ e];exact J x h1 Om
   case measure=>simp[intOf];omega
  ·obtain rfl:i=n*2:=Om
   obtain⟨st,L,V,Y,ac,ak,aj,ai,hl,hf,hX⟩:=HG.out.expand;have q1:=D.pc;have p0:=I.pc;have pf:=I.pf 0;have c0:wr.cell? ⟨g,1,none⟩=some (.int .i32 (-(st:Int))):=by rw[<- V];exact I.c 0 Om
   have b1:wr.cell? ⟨w.heap.size+1,st*2,none⟩=some (.int .i32 (-(L:Int))):=by rw[<- Y,<- (A st ac).1];exact D.b st Om
   have b2:=D.b n Om;have b3:=D.c L Om;have b4:=D.c (n*2-1) Om;have f1:=D.gf;have HS:=Hd (Ai1 D (Ai1 I (Ai1 E (Ai1 A J))));have HX:=Hd hX;have Z:¬ U st:=hf.2.1;have aa:¬ U L:=hl.2.1;have HU:=Hd (Ai1 Z aa);clear D I E A J HR V Y hl hf hX Z aa
   go_wp2
   go_end0
   obtain⟨D,I,E,A,J⟩:=HS.out;have ae:dp≠w.heap.size+1:=by have:=(HH.out.lt).1;omega
   have K:Fr (λk=>k=w.heap.size+1) wr _:=(((((Fr.refl (λk=>k=w.heap.size+1) wr).setCell ⟨w.heap.size+1,n*2,none⟩ (.int .i32 (-(L:Int))) (λ_=>rfl)).setCell ⟨w.heap.size+1,st*2,none⟩ (.int .i32 (-((n:Int)*2-1))) (λ_=>rfl)).setCell ⟨w.heap.size+1,L*2+1,none⟩ (.int .i32 (-(n:Int))) (λ_=>rfl)).setCell ⟨w.heap.size+1,(n*2-1)*2+1,none⟩ (.int .i32 (-(st:Int))) (λ_=>rfl));have D4:=((((D.setB n (-(L:Int))).setB st (-((n:Int)*2-1))).setC L (-(n:Int))).setC (n*2-1) (-(st:Int))).repoint (K.heap I.ptr ae);have G4:=HX.out Bi Ci (λx z=>(A x z).1) (λx z=>(A x z).2) (λx h1 h2=>(J x h1 Om).1) (λx h1 h2=>(J x h1 Om).2);have e2:2*n=n*2:=Nat.mul_comm _ _;rw[e2]at G4⊢;have e3:-(((n*2:Nat):Int)-1) = -((n:Int)*2-1):=Om;rw[e3]at G4;refine⟨rfl,_,_,_,Nat.le_succ _,D4,G4,?_,λx z=>?_⟩
   ·have nl:∀ {p:Prop},w.heap.size+1<w.heap.size->p:=λh=>absurd h (Nat.not_lt.2 (Nat.le_succ _))
    exact (((((E.mono (S':=λk=>k=dp) (λ_ _ h=>h.elim)).setCell _ _ nl).setCell _ _ nl).setCell _ _ nl).setCell _ _ nl).setCell _ _ (λ_=>rfl)
   ·have hl:=HG.out.lt x z;have h1:x≠st:=by rintro rfl;exact HU.out.1 z
    have h2:x≠L:=by rintro rfl;exact HU.out.2 z
    rw[Yh _ _ h1,Yh _ _ Om,Yh _ _ Om,Yh _ _ h2];exact⟨(A x hl).1,λ_=>(A x hl).2⟩
end
section
open Go.RowKit TR
def Zna(n p:Nat)(c:Int)(B C:F)(U:Nat->Prop)(B' C':F):Prop :=
 FreeOk n B' C' (λx=>U x\/x=p)/\C' p=c/\∀ x,U x->B' x=B x/\(x≠0->C' x=C x)
theorem Ny(w:World)(dp g n p c:Nat)(B C:F)(U:Nat->Prop)(h:DA w dp g n B C)(gd:FreeOk n B C U)(hn:n<=536870912)(hp:p<n)(hu:¬ U p)(hc:c<n)(M:(B p==C p)=false) :
  Calls Tryz.prog 293 #[.pointer (some ⟨dp,0,none⟩),.int .i64 p,.int .i64 c] w λe w'=>e=.returned (.tuple #[])/\Fr (two dp g) w w'/\∃ B' C',DA w' dp g n B' C'/\Zna n p c B C U B' C':=by
 have af:=gd.pos;have ab:0<n:=Om
 obtain⟨q,J,hC,hB,ad,ac,am,ak,al,aj,aa,Z,hR⟩:=gd.remove hp hu (by simpa using M) (c:=c) Om;have HR:=Hd hR;have b1:=h.b p hp;have c1:=h.c p hp;have c0:w.cell? ⟨g,1,none⟩=some (.int .i32 (C 0)):=h.c 0 Om;have p0:=h.pc;have ah:(-(J:Int) == -(q:Int))=false:=by rw[<- hC,<- hB];exact M
 rw[hB]at b1;rw[hC]at c1;obtain⟨z0,L,Y⟩:=gd.head;have ai:=Y.1;rw[L]at c0;have HH:=Hd h;have K:=Hd (Ai1 hC (Ai1 hB L));have H5:=Hd (Ai1 aa (Ai1 Z gd.root));clear h hR M hC hB L Y aa Z gd;by_cases hd:p=z0
 case' pos =>
  subst hd;go_enter Tryz.func293,Tryz.ntmps293
  go_wp2_with fail
  go_quiet (fail)
  go_wp2_with fail
  have z:=HH.out.drewN nq;have W:=(Fr.refl (two dp g) w).drewN nq;generalize w.drewN nq=w1 at z W⊢;have q0:=z.pc;have q1:=z.c p hp;have q2:=z.c 0 Om;have q3:=z.gf 1;rw[K.out.1]at q1;simp only[Nat.zero_mul,Nat.zero_add]at q2;have HD:=Hd (Ai1 z W);clear z W b1 c1 p0 c0;refine Ul 12 Kr Kr ?_;simp only[List.take_succ_cons,List.take_zero,List.drop_succ_cons,List.drop_zero]
  repeat still_step
  refine wpStill_nil ?_;go_wp2_with fail
  clear q0 q1 q2 q3;obtain⟨z,W⟩:=HD.out;have A:=(z.setC 0 (-(q:Int))).drew;have F2:=(Su W 1 (.int .i32 (-(q:Int)))).drew;simp only[Nat.zero_mul,Nat.zero_add]at A;clear z W HD;generalize (w1.setCell ⟨g,1,none⟩ (.int .i32 (-(q:Int)))).drew=w2 at A F2⊢;obtain⟨X,G⟩:∃ X,X = -(q:Int):=⟨_,rfl⟩;have HX:Hid (X=if -(p:Int)=C 0 then C p else C 0):=by show _=_;rw[if_pos K.out.2.2.symm];exact G.trans K.out.1.symm
  rw[<- G]at A;clear G
 case' neg =>
  have ae:(-(p:Int) == -(z0:Int))=false:=by simp;omega
  go_enter Tryz.func293,Tryz.ntmps293
  go_wp2_with fail
  go_quiet (fail)
  go_wp2_with fail
  have z:=HH.out.drewN nq;have F2:=(Fr.refl (two dp g) w).drewN nq;have A:=z.congr (B':=B) (C':=up C 0 (C 0)) (λ_ _=>rfl) (λi _=>by by_cases e:i=0<;>simp[up,e]);clear z b1 c1 p0 c0 ae;generalize w.drewN nq=w2 at A F2⊢;obtain⟨X,G⟩:∃ X,X=C 0:=⟨_,rfl⟩;have HX:Hid (X=if -(p:Int)=C 0 then C p else C 0):=by show _=_;rw[if_neg (by rw[K.out.2.2];omega)];exact G
  rw[<- G]at A;clear G
 all_goals
  have CC:up C 0 X p = -(q:Int):=by rw[Yh _ _ (by rintro rfl;exact hu H5.out.2.2)];exact K.out.1
  have I:=(A.setB q (-(J:Int))).drew;have V:=(Su F2 (q*2) (.int .i32 (-(J:Int)))).drew;have r0:=A.pc;have r1:=A.b p hp;have r2:=A.b q ad;have r3:=A.gf (q*2);rw[K.out.2.1]at r1;have H3:=Hd (Ai1 I V);clear A F2 I V;refine Ul 13 Kr Kr ?_;simp only[List.take_succ_cons,List.take_zero,List.drop_succ_cons,List.drop_zero]
  repeat still_step
  refine wpStill_nil ?_;go_wp2_with fail
  clear r0 r1 r2 r3;obtain⟨I,V⟩:=H3.out;clear H3;generalize (w2.setCell ⟨g,q*2,none⟩ (.int .i32 (-(J:Int)))).drew=w3 at I V⊢;have D4:=(I.setC J (-(q:Int))).drew;have F4:=(Su V (J*2+1) (.int .i32 (-(q:Int)))).drew;have r0:=I.pc;have r1:=I.c p hp;have r2:=I.c J ac;have r3:=I.gf (J*2+1);have r4:=D4.pc;have r5:=D4.c p hp;have r6:=D4.gf (p*2+1);rw[CC]at r1;have H4:=Hd (Ai1 D4 F4);clear D4 F4 I V CC;refine Ul 13 Kr Kr ?_;simp only[List.take_succ_cons,List.take_zero,List.drop_succ_cons,List.drop_zero]
  repeat still_step
  refine wpStill_nil ?_;go_wp2_with fail
  go_end0
  have D5:=(H4.out.1).setC p (c:Int);have F5:=Su H4.out.2 (p*2+1) (.int .i32 (c:Int));have ag:p≠0:=by rintro rfl;exact hu H5.out.2.2
  have hr:=HR.out;have hl:=H5.out;rw[<- HX.out,K.out.1,K.out.2.1]at hr;refine⟨rfl,F5,_,_,D5,?_,Y7 _ _ _,λx G=>⟨?_,λh0=>?_⟩⟩
  ·exact hr
  ·exact Yh _ _ (by rintro rfl;exact hl.1 G)
  ·rw[Yh _ _ (by rintro rfl;exact hu G),Yh _ _ (by rintro rfl;exact hl.2.1 G),Yh _ _ h0]
theorem Dg(w:World)(dp:Nat)(b:Int) :
  Calls Tryz.prog 292 #[.pointer (some ⟨dp,0,none⟩),.int .i64 0,.int .i64 b] w λe w'=>e=.returned (.tuple #[])/\w=w':=by
 go_enter Tryz.func292,Tryz.ntmps292
 go_wp2
 exact bodyPost_ret (results_none rfl _ _ _) rfl ⟨rfl,rfl⟩
theorem Zac(w:World)(dp g n p b:Nat)(B C:F)(h:DA w dp g n B C)(hp:p<n)(q:p≠0)(J:0<=C p)(K:b<=1073741824) :
  Calls Tryz.prog 292 #[.pointer (some ⟨dp,0,none⟩),.int .i64 p,.int .i64 b] w λe w'=>e=.returned (.tuple #[])/\Fr (two dp g) w w'/\DA w' dp g n (up B p b) C:=by
 have G:=h.pc;have M:=h.c p hp;have V:=h.b p hp;have L:=h.gf (p*2);have I:((p:Int)==0)=false:=by simp;omega
 have z:¬ (C p<0):=Om
 have A:=Hd h;clear h;go_enter Tryz.func292,Tryz.ntmps292
 go_wp2
 go_end0
 exact⟨rfl,Su (Fl _) _ _,A.out.setB p b⟩
theorem Dh(w:World)(dp g n p b:Nat)(B C:F)(h:DA w dp g n B C)(hp:p<n)(z:p=0->B 0=(b:Int))(A:p≠0->0<=C p)(G:b<=1073741824) :
  Calls Tryz.prog 292 #[.pointer (some ⟨dp,0,none⟩),.int .i64 p,.int .i64 b] w λe w'=>e=.returned (.tuple #[])/\Fr (two dp g) w w'/\DA w' dp g n (up B p b) C:=by
 by_cases q:p=0
 ·subst q;refine (Dg w dp b).mono ?_;rintro e w' ⟨rfl,rfl⟩;exact⟨rfl,Fl _,h.congr (λi _=>by by_cases e:i=0<;>simp[up,e,z rfl]) (λ_ _=>rfl)⟩
 ·exact Zac w dp g n p b B C h hp q (A q) G
end
end Go.Proofs.YtlfoalomaofejaaGreatDoor
section
namespace TR
def Nk(h:List UInt8)(c:UInt8):List UInt8:=if h.getLast? = some c then h else h++[c]
def dd(l:List UInt8):List UInt8:=l.foldl Nk []
theorem Cw(l:List UInt8)(c:UInt8):dd (l++[c])=Nk (dd l) c:=by simp[dd]
theorem Zmp:∀ (l:List UInt8),l.Pairwise (· <= ·)->(dd l).Pairwise (· < ·)/\(∀ c,c∈dd l↔c∈l)/\(dd l).getLast? = l.getLast? /\ (dd l).head? = l.head? /\ (dd l).length<=l.length:=by
 intro l
 induction h:l.length generalizing l with
 | zero =>
  intro _;have:l=[]:=List.eq_nil_of_length_eq_zero h;subst this;simp[dd]
 | succ n ih =>
  intro hp;obtain⟨m,c,rfl⟩:∃ m c,l=m++[c]:=⟨l.dropLast,l.getLast (by intro e;simp[e]at h),(List.dropLast_concat_getLast _).symm⟩;have Z:m.length=n:=by simpa using h
  have a:=(List.pairwise_append.1 hp).1;obtain⟨h1,h2,h3,h4,h5⟩:=ih m Z a;have W:∀ x∈m,x<=c:=λx A=>(List.pairwise_append.1 hp).2.2 x A c (by simp)
  rw[Cw];unfold Nk;by_cases e:(dd m).getLast? = some c
  ·rw[if_pos e];have J:c∈m:=by rw[h3]at e;exact List.mem_of_getLast? e
   refine⟨h1,λx=>?_,?_,?_,?_⟩
   ·rw[h2 x,List.mem_append,List.mem_singleton];exact⟨.inl,λq=>q.elim id (λq=>q▸J)⟩
   ·rw[e];simp
   ·rw[h4]
    cases m with
    | nil=>simp at J
    | cons a t=>rfl
   ·omega
  ·rw[if_neg e];refine⟨?_,λx=>?_,by simp,?_,by simp;omega⟩
   ·rw[List.pairwise_append];refine⟨h1,by simp,λx A y X=>?_⟩;rw[List.mem_singleton.1 X];have M:=(h2 x).1 A;have V:=W x M;rcases UInt8.lt_or_eq_of_le V with q|q
    ·exact q
    ·subst q;exfalso;have G:dd m≠[]:=List.ne_nil_of_mem A;obtain⟨z,I⟩:∃ z,(dd m).getLast? = some z:=⟨_,List.getLast?_eq_some_getLast G⟩;have L:z∈m:=(h2 z).1 (List.mem_of_getLast? I);have K:=W z L
     obtain⟨q,Y⟩:∃ q,dd m=q++[z]:=by
      refine⟨(dd m).dropLast,?_⟩;rw[List.getLast?_eq_some_getLast G]at I;injection I with I
      rw[<- I];exact (List.dropLast_concat_getLast G).symm
     rw[Y]at A h1;rcases List.mem_append.1 A with A|A
     ·have:=(List.pairwise_append.1 h1).2.2 x A z (by simp);exact absurd this (UInt8.not_lt.2 K)
     ·rw[List.mem_singleton.1 A]at e;exact e I
   ·rw[List.mem_append,List.mem_append,h2 x]
   ·cases m with
    | nil=>simp[dd]
    | cons a t =>
     rw[List.head?_append,h4];simp
def lex:List UInt8->List UInt8->Bool
 | [],_=>true
 | _::_,[]=>false
 | a::s,b::t=>if a<b then true else if a=b then lex s t else false
def Srt(ks:List Key):Prop:=ks.Pairwise λa b=>lex a.1 b.1=true
def NoZ(ks:List Key):Prop:=∀ k∈ks,(0:UInt8) ∉ k.1
theorem Zon{a b:Key}(h:lex a.1 b.1=true):hd a<=hd b:=by
 obtain⟨s,i⟩:=a;obtain⟨t,j⟩:=b;unfold hd
 match s,t,h with
 | [],t,_=>exact UInt8.le_iff_toNat_le.2 (by simp)
 | x::s,y::t,h =>
  simp only[lex]at h;simp only[List.headD_cons]
  split at h
  ·exact UInt8.le_of_lt ‹_›
  ·split at h
   ·exact ‹x=y›▸UInt8.le_refl _
   ·cases h
theorem Srt.hds{ks:List Key}(h:Srt ks):(ks.map hd).Pairwise (· <= ·):=List.pairwise_map.2 (h.imp Zon)
theorem NoZ.strip{ks:List Key}(h:NoZ ks)(c:UInt8):NoZ (strip c ks):=by
 intro k G;obtain⟨A,z,e⟩:=List.mem_filterMap.1 G
 split at e
 ·cases e
 ·rename_i a t e'
  split at e
  ·injection e with e
   subst e;have:=h A z;rw[e']at this;exact λq=>this (List.mem_cons_of_mem _ q)
  ·cases e
theorem Srt.strip{ks:List Key}(h:Srt ks)(c:UInt8):Srt (strip c ks):=by
 refine List.Pairwise.filterMap _ ?_ h;intro a I z b A G q
 split at A
 ·cases A
 ·rename_i x s ex
  split at A
  ·rename_i e1;injection A with A
   split at q
   ·cases q
   ·rename_i y t ey
    split at q
    ·rename_i e2;injection q with q
     rw[ex,ey,e1,e2]at z;rw[<- A,<- q];simpa [lex] using z
    ·cases q
  ·cases A
def Sg(ks:List Key):Nat:=(ks.map λk=>k.1.length+1).sum
theorem Jv(k:Key)(ks:List Key):Sg (k::ks)=k.1.length+1+Sg ks:=by simp[Sg]
theorem Uj(c:UInt8)(k:Key)(ks:List Key):strip c (k::ks)=(match k.1 with|[]=>[]|a::t=>if a=c then [(t,k.2)] else [])++strip c ks:=by
 unfold strip;rw[List.filterMap_cons];obtain⟨s,i⟩:=k
 match s with
 | []=>rfl
 | a::t =>
  by_cases e:a=c<;>simp[e]
theorem Gh:∀ (cs:List UInt8) (ks:List Key),cs.Nodup->(cs.map λc=>Sg (strip c ks)).sum+ks.length<=Sg ks
 | cs,[],h=>by
  have:(cs.map λc=>Sg (strip c []))=cs.map λ_=>0:=rfl
  rw[this];clear this
  induction cs with
  | nil=>simp[Sg]
  | cons c cs A=>simpa [Sg] using A (List.nodup_cons.1 h).2
 | cs,k::ks,h=>by
  have A:=Gh cs ks h
  have e:∀ (cs:List UInt8),cs.Nodup->(cs.map λc=>Sg (strip c (k::ks))).sum<=(cs.map λc=>Sg (strip c ks)).sum+k.1.length:=by
   intro cs
   induction cs with
   | nil=>intro _;simp
   | cons c cs ih2 =>
    intro I;have q:=List.nodup_cons.1 I;simp only[List.map_cons,List.sum_cons];obtain⟨s,i⟩:=k
    match s with
    | [] =>
     have:=ih2 q.2;have z:Sg (strip c (([],i)::ks))=Sg (strip c ks):=by rw[Uj];rfl
     rw[z];simp only[List.length_nil]at this⊢;omega
    | a::t =>
     by_cases G:a=c
     ·subst G;have z:Sg (strip a ((a::t,i)::ks))=t.length+1+Sg (strip a ks):=by rw[Uj];simp[Sg]
      have K:(cs.map λc=>Sg (strip c ((a::t,i)::ks))).sum=(cs.map λc=>Sg (strip c ks)).sum:=by
       congr 1;apply List.map_congr_left;intro c J;rw[Uj];have:a≠c:=λe=>q.1 (e▸J)
       simp[this]
      rw[z,K];simp only[List.length_cons];omega
     ·have:=ih2 q.2;have z:Sg (strip c ((a::t,i)::ks))=Sg (strip c ks):=by rw[Uj];simp[G]
      rw[z];omega
  have:=e cs h;rw[Jv,List.length_cons];omega
structure Laid(n0:Nat)(B0 C0:F)(U0 Um:Nat->Prop)(p b:Nat)(cs:List UInt8)(ks:List Key)(j:Nat)(n:Nat)(B C:F)(U:Nat->Prop):Prop where
 good:FreeOk n B C U
 stay:Gg p n0 B0 C0 U0 n B C U
 base:B p=(b:Int)
 sub:∀ x,Um x->U x
 child:∀ c∈cs,Um (b+c.toNat)/\¬ U0 (b+c.toNat)/\C (b+c.toNat)=(p:Int)
 own:∀ x,U x->C x=(p:Int)->∃ c∈cs,x=b+c.toNat
 leaf:∀ c∈cs.take j,c=0->∀ i,Vz ks=some i->B b = -(i:Int)
 node:∀ c∈cs.take j,c≠0->Sub n B C (λx=>x=b+c.toNat\/(U x/\¬ Um x)) (b+c.toNat) (strip c ks)
variable{n0 n n':Nat}{B0 C0 B C B' C':F}{U0 Um U U':Nat->Prop}{p b:Nat}{cs:List UInt8}{ks:List Key}{j:Nat}
theorem Laid.done(h:Laid n0 B0 C0 U0 Um p b cs ks cs.length n B C U)(V:1<=b)(z:∀ x,U0 x->Um x)(hp:U0 p)(hl:∀ c,c∈cs↔∃ k∈ks,hd k=c) :
  Sub n B C (λx=>x=p\/(U x/\¬ U0 x)) p ks:=by
 refine .mk p ks b (.inl rfl) h.base V (λc=>⟨λ⟨h1,h2⟩=>?_,λA=>?_⟩) (λi hi=>?_) (λc W M=>?_)
 ·have K:U (b+c.toNat):=by
   by_cases e:U (b+c.toNat)
   ·exact e
   ·have:=(h.good.free_iff h1 Om).2 e;omega
  obtain⟨c',G,e⟩:=h.own _ K h2;have:c=c':=UInt8.toNat_inj.1 Om;exact (hl c).1 (this▸G)
 ·obtain⟨h1,h2,h3⟩:=h.child c ((hl c).2 A);exact⟨h.good.lt _ (h.sub _ h1),h3⟩
 ·have I:(0:UInt8)∈cs:=by
   obtain⟨k,A,L⟩:=Qp.1 ⟨i,hi⟩;exact (hl 0).2 ⟨k,A,by simp[hd,L]⟩
  exact h.leaf 0 (by rw[List.take_length];exact I) rfl i hi
 ·have q:=(hl c).2 M;obtain⟨h1,h2,h3⟩:=h.child c q;refine (h.node c (by rw[List.take_length];exact q) W).keep (λx J=>?_) (λ_ _=>rfl) (λ_ _ _ _ _=>rfl) (λ_ _ _=>Iff.rfl);rcases J with rfl|⟨a,X⟩
  ·exact .inr ⟨h.sub _ h1,h2⟩
  ·exact .inr ⟨a,λe=>X (z x e)⟩
theorem Laid.leaf_step(h:Laid n0 B0 C0 U0 Um p b cs ks j n B C U)(M:j<cs.length)(J:cs[j]=0)(hp:U0 p)(G:cs.Pairwise (· < ·)){v:Int}(Y:∀ i,Vz ks=some i->v = -(i:Int)) :
  Laid n0 B0 C0 U0 Um p b cs ks (j+1) n (up B b v) C U:=by
 have z:cs[j]∈cs:=List.getElem_mem M;have q:=h.child _ z;rw[J]at q;simp at q;have W:b≠p:=λe=>q.2.1 (e▸hp)
 have L:j=0:=by
  rcases Nat.eq_zero_or_pos j with e|e
  ·exact e
  ·have:=List.pairwise_iff_getElem.1 G 0 j Om M e;rw[J]at this;exact absurd (UInt8.lt_iff_toNat_lt.1 this) (by simp)
 subst L
 have Z:FreeOk n (up B b v) C U:=⟨h.good.pos,h.good.root,h.good.lt,h.good.used,h.good.nxt,λx I X=>by
  rw[Yh _ _ (by rintro rfl;exact X (h.sub _ q.1))];exact h.good.prv x I X,h.good.head⟩
 refine⟨Z,⟨h.stay.le,h.stay.sub,λx I K=>?_,h.stay.check,h.stay.fresh⟩,by rw[Yh _ _ (Ne.symm W)];exact h.base,h.sub,h.child,h.own,λc _ _ i hi=>by rw[Y7];exact Y i hi,λc V A=>?_⟩
 ·rw[Yh _ _ (by rintro rfl;exact q.2.1 I)];exact h.stay.base x I K
 ·exfalso;rw[List.take_succ_eq_append_getElem M]at V;simp at V;exact A (V.trans J)
theorem Laid.node_step(h:Laid n0 B0 C0 U0 Um p b cs ks j n B C U)(hj:j<cs.length)(hz:cs[j]≠0)(hb:1<=b)(hp:U0 p)(r0:U0 0)(ag:∀ x,U0 x->Um x)(af:cs.Nodup)
  (G:Gg (b+(cs[j]).toNat) n B C U n' B' C' U') (hg:FreeOk n' B' C' U') (M:Sub n' B' C' (λx=>x=b+(cs[j]).toNat\/(U' x/\¬ U x)) (b+(cs[j]).toNat) (strip cs[j] ks)) :
  Laid n0 B0 C0 U0 Um p b cs ks (j+1) n' B' C' U':=by
 have Y:cs[j]∈cs:=List.getElem_mem hj;obtain⟨q1,q2,q3⟩:=h.child _ Y;have ad:=h.sub _ q1;have X:U p:=h.stay.sub _ hp;have V:b+(cs[j]).toNat≠p:=λe=>q2 (e▸hp)
 refine⟨hg,h.stay.step G r0 (.inr ⟨ad,q2⟩),(G.base p X (Ne.symm V)).trans h.base,λx A=>G.sub x (h.sub x A),λc z=>?_,λx A z=>?_,λc z I i hi=>?_,λc z I=>?_⟩
 ·obtain⟨L,a2,a3⟩:=h.child c z;exact⟨L,a2,(G.check _ (h.sub _ L) Om).trans a3⟩
 ·by_cases hu:U x
  ·by_cases x0:x=0
   ·subst x0;obtain⟨y,hy,hf⟩:=hg.head;have:y≠0:=λe=>hf.2.1 (e▸hg.root)
    omega
   ·rw[G.check x hu x0]at z;exact h.own x hu z
  ·obtain⟨y,hy,aa⟩:=G.fresh x A hu;have e:y=p:=Om;subst e;rcases aa with e|e
   ·exact absurd e.symm V
   ·exact absurd X e.2
 ·rw[List.take_succ_eq_append_getElem hj]at z;rcases List.mem_append.1 z with z|z
  ·have K:=List.mem_of_mem_take z;have L:=(h.child c K).1;rw[I]at L;simp at L
   have:b≠b+(cs[j]).toNat:=by
    intro e;apply hz;apply UInt8.toNat_inj.1;simp;omega
   rw[G.base b (h.sub _ L) this];exact h.leaf c z I i hi
  ·simp at z;exact absurd (z.symm.trans I) hz
 ·rw[List.take_succ_eq_append_getElem hj]at z;rcases List.mem_append.1 z with z|z
  ·have K:=List.mem_of_mem_take z
   have ae:c≠cs[j]:=by
    intro e;rw[e]at z;obtain⟨i,hi,he⟩:=List.getElem_of_mem z;simp only[List.length_take]at hi;rw[List.getElem_take]at he;have:=(List.getElem_inj (h₀:=Om) (h₁:=hj) af).1 he;omega
   have J:∀ x,(x=b+c.toNat\/(U x/\¬ Um x))->U x/\x≠b+(cs[j]).toNat:=by
    rintro x (rfl|⟨a,Z⟩)
    ·exact⟨h.sub _ (h.child c K).1,λe=>ae (UInt8.toNat_inj.1 Om)⟩
    ·exact⟨a,λe=>Z (e▸q1)⟩
   refine (h.node c z I).keep (λx A=>?_) (λx A=>?_) (λq x W A ah=>?_) (λq W x=>?_)
   ·rcases A with rfl|⟨a,Z⟩
    ·exact .inl rfl
    ·exact .inr ⟨G.sub x a,Z⟩
   ·exact G.base x (J x A).1 (J x A).2
   ·
    obtain⟨aj,ai⟩:=J q W
    have ac:x≠0:=by
     rintro rfl;obtain⟨y,hy,hf⟩:=h.good.head;have:y≠0:=λe=>hf.2.1 (e▸h.good.root)
     omega
    have ab:U x:=by
     by_cases e:U x
     ·exact e
     ·have:=(h.good.free_iff A ac).2 e;omega
    refine G.base x ab (λe=>?_);rw[e,q3]at ah;have:q=p:=Om;subst this;rcases W with e|⟨_,e⟩
    ·exact (h.child c K).2.1 (e▸hp)
    ·exact e (ag _ hp)
   ·exact G.checks h.good hg (J q W).1 (J q W).2 x
  ·simp at z;subst z;refine M.keep (λx A=>?_) (λ_ _=>rfl) (λ_ _ _ _ _=>rfl) (λ_ _ _=>Iff.rfl);rcases A with rfl|⟨a,Z⟩
   ·exact .inl rfl
   ·exact .inr ⟨a,λe=>Z (h.sub x e)⟩
end TR
end
