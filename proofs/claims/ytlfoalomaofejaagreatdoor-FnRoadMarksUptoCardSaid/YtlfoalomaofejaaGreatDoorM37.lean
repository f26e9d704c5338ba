/- The user's records in plain Le -/
import Derived.Test.YtlfoalomaofejaaGreatDoorM34
import Derived.Test.YtlfoalomaofejaaGreatDoorM2
import Derived.Test.YtlfoalomaofejaaGreatDoorM24
import Derived.Test.YtlfoalomaofejaaGreatDoorM36
set_option linter.all false
namespace Go.Proofs.YtlfoalomaofejaaGreatDoor
open Go.RowKit Go.Sort DT SS TR LT UC Go.Lib
structure Zd5(us:List GRec):Prop where
 asc:(us.map GRec.text).Pairwise (λa b=>Vr a b=true)
 plain:∀ u∈us,Wz u.text=true
 trim:∀ u∈us,Lib.trimSpaceD u.text.data.toList=u.text.data.toList
 toks:∀ u∈us,1<=u.tokens.length/\u.tokens.length=u.yomi.length
 size:∀ u∈us,u.text.size<=2147483647
 pos:1<=us.length
 len:us.length<=1000
 sum:Rc (us.map GRec.text)<=50000
theorem Ka(r:Nat)(h:Qw r=false):Lib.isSpaceR r=false:=by
 simp only[Qw,Bool.or_eq_false_iff,decide_eq_false_iff_not,beq_eq_false_iff_ne,Bool.and_eq_false_iff]at h;simp only[Lib.isSpaceR,Bool.or_eq_false_iff,decide_eq_false_iff_not,beq_eq_false_iff_ne,Bool.and_eq_false_iff];omega
theorem Bz(f:Nat)(l:List UInt8)(h:l≠[]->Lib.isSpaceR (decodeL l).1=false):trimLeftD f l=l:=by
 cases f with
 | zero=>rfl
 | succ f =>
  unfold trimLeftD;by_cases e:l=[]
  ·rw[if_pos e,e]
  ·rw[if_neg e,h e];rfl
theorem Ez(f:Nat)(l:List UInt8)(h:l≠[]->Lib.isSpaceR (decodeLastL l).1=false):trimRightD f l=l:=by
 cases f with
 | zero=>rfl
 | succ f =>
  unfold trimRightD;by_cases e:l=[]
  ·rw[if_pos e,e]
  ·rw[if_neg e,h e];rfl
theorem Zld{s:ByteArray}(h:∀ c∈Zd s,Qw (Xi c)=false):Lib.trimSpaceD s.data.toList=s.data.toList:=by
 have A:∀ c∈Zd s,Xi c≠65533:=λc I e=>by
  have:=h c I;rw[e]at this;exact absurd this (by decide)
 have G:=Du _ (Nl _) A;unfold trimSpaceD
 have h1:s.data.toList≠[]->Lib.isSpaceR (decodeL s.data.toList).1=false:=by
  intro e;rw[<- P8 e];refine Ka _ (h _ ?_);show _∈Xl _;rw[chunk_step _ e];simp
 rw[Bz _ _ h1];refine Ez _ _ (λe=>?_);have z:=T2 s;have hd:Zd s≠[]:=λq=>by rw[q]at z;exact e z.symm
 have hl:=List.dropLast_concat_getLast hd;rw[<- hl,List.flatten_append,List.flatten_singleton]at z;rw[<- z,Fh (G _ (List.getLast_mem hd)).1];exact Ka _ (h _ (List.getLast_mem hd))
theorem Zbi{α:Type}(lt:α->α->Bool)(x:α):∀ q:List α,(∀ y∈q,lt x y=false)->Tt lt x q=q++[x]
 | [],_=>rfl
 | y::l,h=>by
  unfold Tt;rw[h y (by simp)];simp only[Bool.false_eq_true,if_false];rw[Zbi lt x l (λz A=>h z (by simp[A]))];rfl
theorem Zie{α:Type}(lt:α->α->Bool)(h:SWO lt)(l:List α)(hl:l.Pairwise (λa b=>lt a b=true)):Z6 lt l=l:=by
 have:∀ (l q:List α),(q++l).Pairwise (λa b=>lt a b=true)->l.foldl (λq x=>Tt lt x q) q=q++l:=by
  intro l
  induction l with
  | nil=>intro q _;simp
  | cons x l ih =>
   intro q hp;rw[List.foldl_cons,Zbi lt x q (λy A=>?_),ih (q++[x]) (by simpa using hp)]
   ·simp
   ·have:=(List.pairwise_append.1 hp).2.2 y A x (by simp)
    cases G:lt x y with
    | false=>rfl
    | true=>have z:=h.trans _ _ _ this G;rw[h.irrefl]at z;cases z
 have:=this l [] (by simpa using hl);simpa [Z6] using this
theorem Za7:∀ a b:List UInt8,Op.bytesLess a b=true↔a<b
 | [],[]=>by simp[Op.bytesLess]
 | [],_::_=>by simp[Op.bytesLess]
 | _::_,[]=>by simp[Op.bytesLess]
 | a::l,b::m=>by
  rw[List.cons_lt_cons_iff];unfold Op.bytesLess;rw[Bool.or_eq_true,Bool.and_eq_true,decide_eq_true_eq,beq_iff_eq,Za7 l m]
theorem Zla{us:List GRec}(h:ruB us=true)(V:∀ u∈us,u.text.size<=2147483647)(hl:us.length<=1000)(X:Rc (us.map GRec.text)<=50000):Zd5 us:=by
 unfold ruB at h;rw[Bool.and_eq_true,List.all_eq_true]at h;obtain⟨h1,h2⟩:=h;unfold Hy at h2;rw[Bool.and_eq_true,List.all_eq_true,decide_eq_true_eq,List.length_map]at h2;obtain⟨h2,h3⟩:=h2
 have A:∀ u∈us,(∀ c∈Zd u.text,Qw (Xi c)=false)/\1<=u.tokens.length/\u.tokens.length=u.yomi.length:=by
  intro u I;have:=h1 u I;unfold N1 at this;simp only[Bool.and_eq_true,List.all_eq_true,decide_eq_true_eq,Bool.not_eq_true']at this;exact this
 have J:∀ i (hi:i<us.length),(us[i].text.size≠0/\Wk us[i].text=true)/\(∀ j (G:j<us.length),i=j+1->Vr us[j].text us[i].text=true):=by
  intro i hi;have:=h2 i (by simpa using hi);unfold N9 at this;rw[Ge (by simpa using hi)]at this;simp only[Bool.and_eq_true,decide_eq_true_eq,Bool.or_eq_true,beq_iff_eq,List.getElem_map]at this;refine⟨this.1,λj G e=>?_⟩;rcases this.2 with q|q
  ·omega
  ·have e2:i-1=j:=Om;rw[e2,Ge (by simpa using G)]at q;simp only[Bool.and_eq_true,Bool.not_eq_true',List.getElem_map,beq_eq_false_iff_ne]at q;rw[Xw]
   have U:¬ us[i].text.data.toList<us[j].text.data.toList:=λz=>by
    have:=(Za7 _ _).2 z;rw[ByteArray.toList_eq,ByteArray.toList_eq]at q;rw[this]at q;exact absurd q.1 (by simp)
   apply Decidable.byContradiction;intro z;have:=List.le_antisymm (List.not_lt.1 z) (List.not_lt.1 U);rw[ByteArray.toList_eq,ByteArray.toList_eq]at q;exact q.2 this
 refine⟨?_,λu I=>?_,λu I=>Zld (A u I).1,λu I=>(A u I).2,V,h3,hl,X⟩
 ·have L:∀ (n i j:Nat) (hi:i<us.length) (G:j<us.length),j=i+1+n->Vr us[i].text us[j].text=true:=by
   intro n
   induction n with
   | zero=>intro i j hi G e;exact (J j G).2 i hi Om
   | succ n ih=>intro i j hi G e;exact bytesLt_swo.trans _ _ _ (ih i (j-1) hi Om Om) ((J j G).2 (j-1) Om Om)
  rw[List.pairwise_map,List.pairwise_iff_getElem];intro i j hi G Z;exact L (j-i-1) i j hi G Om
 ·obtain⟨i,hi,rfl⟩:=List.getElem_of_mem I;obtain⟨⟨a1,a2⟩,_⟩:=J i hi;have W:=(A _ I).1
  have hg:=Du _ (Nl _) (λc M e=>by
   have:=W c M;rw[e]at this
   exact absurd this (by decide))
  unfold Wz
  have K:Lib.validD us[i].text.data.toList=true:=by
   rw[<- T2];exact good_valid _ (λc M=>(hg c M).1)
  rw[K,Bool.and_true,Bool.and_eq_true,decide_eq_true_eq];refine⟨λq=>?_,?_⟩
  ·unfold Wk inB at a2;simp at a2;exact a2 (by simpa using q)
  ·cases Y:us[i].text.data.toList with
   | nil =>
    have:us[i].text.data.toList.length=us[i].text.size:=by rw[Array.length_toList];rfl
    rw[Y]at this;exact absurd this.symm a1
   | cons x l=>rfl
end Go.Proofs.YtlfoalomaofejaaGreatDoor
