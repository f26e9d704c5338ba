/- The user's records in plain Le -/
import Derived.Test.YtlfoalomaofejaaGreatDoorC35
import Derived.Test.YtlfoalomaofejaaGreatDoorC2
import Derived.Test.YtlfoalomaofejaaGreatDoorC25
import Derived.Test.YtlfoalomaofejaaGreatDoorC37
set_option linter.all false
namespace Go.Proofs.YtlfoalomaofejaaGreatDoor
open Go.RowKit Go.Sort DT SS TR LT UC Go.Lib
structure Zde(us:List GRec):Prop where
 asc:(us.map GRec.text).Pairwise (λa b=>Vm a b=true)
 plain:∀ u∈us,Ws u.text=true
 trim:∀ u∈us,Lib.trimSpaceD u.text.data.toList=u.text.data.toList
 toks:∀ u∈us,1<=u.tokens.length/\u.tokens.length=u.yomi.length
 size:∀ u∈us,u.text.size<=2147483647
 pos:1<=us.length
 len:us.length<=1000
 sum:R8 (us.map GRec.text)<=50000
theorem Lt(r:Nat)(h:Qr r=false):Lib.isSpaceR r=false:=by
 simp only[Qr,Bool.or_eq_false_iff,decide_eq_false_iff_not,beq_eq_false_iff_ne,Bool.and_eq_false_iff]at h;simp only[Lib.isSpaceR,Bool.or_eq_false_iff,decide_eq_false_iff_not,beq_eq_false_iff_ne,Bool.and_eq_false_iff];omega
theorem Bc(f:Nat)(l:List UInt8)(h:l≠[]->Lib.isSpaceR (decodeL l).1=false):trimLeftD f l=l:=by
 cases f with
 | zero=>rfl
 | succ f =>
  unfold trimLeftD;by_cases e:l=[]
  ·rw[if_pos e,e]
  ·rw[if_neg e,h e];rfl
theorem Ec(f:Nat)(l:List UInt8)(h:l≠[]->Lib.isSpaceR (decodeLastL l).1=false):trimRightD f l=l:=by
 cases f with
 | zero=>rfl
 | succ f =>
  unfold trimRightD;by_cases e:l=[]
  ·rw[if_pos e,e]
  ·rw[if_neg e,h e];rfl
theorem Zkb{s:ByteArray}(h:∀ c∈Zd s,Qr (Xa c)=false):Lib.trimSpaceD s.data.toList=s.data.toList:=by
 have hne:∀ c∈Zd s,Xa c≠65533:=λc hc e=>by
  have:=h c hc;rw[e]at this;exact absurd this (by decide)
 have hg:=Ex _ (Nl _) hne;unfold trimSpaceD
 have h1:s.data.toList≠[]->Lib.isSpaceR (decodeL s.data.toList).1=false:=by
  intro e;rw[<- Pw e];refine Lt _ (h _ ?_);show _∈Xc _;rw[chunk_step _ e];simp
 rw[Bc _ _ h1];refine Ec _ _ (λe=>?_);have hf:=So s;have hd:Zd s≠[]:=λq=>by rw[q]at hf;exact e hf.symm
 have hl:=List.dropLast_concat_getLast hd;rw[<- hl,List.flatten_append,List.flatten_singleton]at hf;rw[<- hf,Gm (hg _ (List.getLast_mem hd)).1];exact Lt _ (h _ (List.getLast_mem hd))
theorem Zas{α:Type}(lt:α->α->Bool)(x:α):∀ acc:List α,(∀ y∈acc,lt x y=false)->To lt x acc=acc++[x]
 | [],_=>rfl
 | y::l,h=>by
  unfold To;rw[h y (by simp)];simp only[Bool.false_eq_true,if_false];rw[Zas lt x l (λz hz=>h z (by simp[hz]))];rfl
theorem Zhe{α:Type}(lt:α->α->Bool)(h:SWO lt)(l:List α)(hl:l.Pairwise (λa b=>lt a b=true)):Z6 lt l=l:=by
 have:∀ (l acc:List α),(acc++l).Pairwise (λa b=>lt a b=true)->l.foldl (λacc x=>To lt x acc) acc=acc++l:=by
  intro l
  induction l with
  | nil=>intro acc _;simp
  | cons x l ih =>
   intro acc hp;rw[List.foldl_cons,Zas lt x acc (λy hy=>?_),ih (acc++[x]) (by simpa using hp)]
   ·simp
   ·have:=(List.pairwise_append.1 hp).2.2 y hy x (by simp)
    cases hq:lt x y with
    | false=>rfl
    | true=>have z:=h.trans _ _ _ this hq;rw[h.irrefl]at z;cases z
 have:=this l [] (by simpa using hl);simpa [Z6] using this
theorem Zaj:∀ a b:List UInt8,Op.bytesLess a b=true↔a<b
 | [],[]=>by simp[Op.bytesLess]
 | [],_::_=>by simp[Op.bytesLess]
 | _::_,[]=>by simp[Op.bytesLess]
 | a::l,b::m=>by
  rw[List.cons_lt_cons_iff];unfold Op.bytesLess;rw[Bool.or_eq_true,Bool.and_eq_true,decide_eq_true_eq,beq_iff_eq,Zaj l m]
theorem Zj8{us:List GRec}(h:ruB us=true)(hz:∀ u∈us,u.text.size<=2147483647)(hl:us.length<=1000)(hs:R8 (us.map GRec.text)<=50000):Zde us:=by
 unfold ruB at h;rw[Bool.and_eq_true,List.all_eq_true]at h;obtain⟨h1,h2⟩:=h;unfold He at h2;rw[Bool.and_eq_true,List.all_eq_true,decide_eq_true_eq,List.length_map]at h2;obtain⟨h2,h3⟩:=h2
 have hrec:∀ u∈us,(∀ c∈Zd u.text,Qr (Xa c)=false)/\1<=u.tokens.length/\u.tokens.length=u.yomi.length:=by
  intro u hu;have:=h1 u hu;unfold No at this;simp only[Bool.and_eq_true,List.all_eq_true,decide_eq_true_eq,Bool.not_eq_true']at this;exact this
 have hat:∀ i (hi:i<us.length),(us[i].text.size≠0/\Wf us[i].text=true)/\(∀ j (hj:j<us.length),i=j+1->Vm us[j].text us[i].text=true):=by
  intro i hi;have:=h2 i (by simpa using hi);unfold Nu at this;rw[Ge (by simpa using hi)]at this;simp only[Bool.and_eq_true,decide_eq_true_eq,Bool.or_eq_true,beq_iff_eq,List.getElem_map]at this;refine⟨this.1,λj hj e=>?_⟩;rcases this.2 with q|q
  ·omega
  ·have e2:i-1=j:=Om;rw[e2,Ge (by simpa using hj)]at q;simp only[Bool.and_eq_true,Bool.not_eq_true',List.getElem_map,beq_eq_false_iff_ne]at q;rw[Xn]
   have n1:¬ us[i].text.data.toList<us[j].text.data.toList:=λz=>by
    have:=(Zaj _ _).2 z;rw[ByteArray.toList_eq,ByteArray.toList_eq]at q;rw[this]at q;exact absurd q.1 (by simp)
   apply Decidable.byContradiction;intro z;have:=List.le_antisymm (List.not_lt.1 z) (List.not_lt.1 n1);rw[ByteArray.toList_eq,ByteArray.toList_eq]at q;exact q.2 this
 refine⟨?_,λu hu=>?_,λu hu=>Zkb (hrec u hu).1,λu hu=>(hrec u hu).2,hz,h3,hl,hs⟩
 ·have hst:∀ (n i j:Nat) (hi:i<us.length) (hj:j<us.length),j=i+1+n->Vm us[i].text us[j].text=true:=by
   intro n
   induction n with
   | zero=>intro i j hi hj e;exact (hat j hj).2 i hi Om
   | succ n ih=>intro i j hi hj e;exact bytesLt_swo.trans _ _ _ (ih i (j-1) hi Om Om) ((hat j hj).2 (j-1) Om Om)
  rw[List.pairwise_map,List.pairwise_iff_getElem];intro i j hi hj hij;exact hst (j-i-1) i j hi hj Om
 ·obtain⟨i,hi,rfl⟩:=List.getElem_of_mem hu;obtain⟨⟨a1,a2⟩,_⟩:=hat i hi;have hv:=(hrec _ hu).1
  have hg:=Ex _ (Nl _) (λc hc e=>by
   have:=hv c hc;rw[e]at this
   exact absurd this (by decide))
  unfold Ws
  have hval:Lib.validD us[i].text.data.toList=true:=by
   rw[<- So];exact good_valid _ (λc hc=>(hg c hc).1)
  rw[hval,Bool.and_true,Bool.and_eq_true,decide_eq_true_eq];refine⟨λq=>?_,?_⟩
  ·unfold Wf inB at a2;simp at a2;exact a2 (by simpa using q)
  ·cases hq:us[i].text.data.toList with
   | nil =>
    have:us[i].text.data.toList.length=us[i].text.size:=by rw[Array.length_toList];rfl
    rw[hq]at this;exact absurd this.symm a1
   | cons x l=>rfl
end Go.Proofs.YtlfoalomaofejaaGreatDoor
