/- The user's records in plain Lean: what is fit, and that a fit text is trimmed already. -/
import Derived.Test.YtoliamijgmifkaaGreatDoorF38
import Derived.Test.YtoliamijgmifkaaGreatDoorF3
import Derived.Test.YtoliamijgmifkaaGreatDoorF27
import Derived.Test.YtoliamijgmifkaaGreatDoorF40
set_option linter.all false
namespace Go.Proofs.YtoliamijgmifkaaGreatDoor
open Go.RowKit Go.Sort DT SS TR LT UC Lib
structure Za2(us:List GRec):Prop where
 asc:(us.map GRec.text).Pairwise (fun a b=>Vc a b=true)
 plain:∀ u∈us,Wl u.text=true
 trim:∀ u∈us,Lib.trimSpaceD u.text.data.toList=u.text.data.toList
 toks:∀ u∈us,1<=u.tokens.length/\u.tokens.length=u.yomi.length
 size:∀ u∈us,u.text.size<=2147483647
 pos:1<=us.length
 len:us.length<=1000
 sum:Rb (us.map GRec.text)<=50000
theorem Mt(r:Nat)(h:R8 r=false):Lib.isSpaceR r=false:=by
 simp only[R8,Bool.or_eq_false_iff,decide_eq_false_iff_not,beq_eq_false_iff_ne,Bool.and_eq_false_iff]at h;simp only[Lib.isSpaceR,Bool.or_eq_false_iff,decide_eq_false_iff_not,beq_eq_false_iff_ne,Bool.and_eq_false_iff];omega
theorem Ef(f:Nat)(l:List UInt8)(h:l≠[]->Lib.isSpaceR (decodeL l).1=false):trimLeftD f l=l:=by
 cases f with
 | zero=>rfl
 | succ f =>
  unfold trimLeftD;by_cases e:l=[]
  ·rw[if_pos e,e]
  ·rw[if_neg e,h e];rfl
theorem Hr(f:Nat)(l:List UInt8)(h:l≠[]->Lib.isSpaceR (decodeLastL l).1=false):trimRightD f l=l:=by
 cases f with
 | zero=>rfl
 | succ f =>
  unfold trimRightD;by_cases e:l=[]
  ·rw[if_pos e,e]
  ·rw[if_neg e,h e];rfl
theorem Zhq{s:ByteArray}(h:∀ c∈Zd s,R8 (Y4 c)=false):Lib.trimSpaceD s.data.toList=s.data.toList:=by
 have hne:∀ c∈Zd s,Y4 c≠65533:=fun c hc e=>by
  have:=h c hc;rw[e]at this;exact absurd this (by decide)
 have hg:=Gk _ (Nat.le_refl _) hne;unfold trimSpaceD
 have h1:s.data.toList≠[]->Lib.isSpaceR (decodeL s.data.toList).1=false:=by
  intro e;rw[<- Q4 e];refine Mt _ (h _ ?_);show _∈Y6 _;rw[chunk_step _ e];simp
 rw[Ef _ _ h1];refine Hr _ _ (fun e=>?_);have hf:=Ti s;have hd:Zd s≠[]:=fun q=>by rw[q]at hf;exact e hf.symm
 have hl:=List.dropLast_concat_getLast hd;rw[<- hl,List.flatten_append,List.flatten_singleton]at hf;rw[<- hf,Ip (hg _ (List.getLast_mem hd)).1];exact Mt _ (h _ (List.getLast_mem hd))
theorem D7{α:Type}(lt:α->α->Bool)(x:α):∀ acc:List α,(∀ y∈acc,lt x y=false)->Tc lt x acc=acc++[x]
 | [],_=>rfl
 | y::l,h=>by
  unfold Tc;rw[h y (by simp)];simp only[Bool.false_eq_true,if_false];rw[D7 lt x l (fun z hz=>h z (by simp[hz]))];rfl
theorem Ze3{α:Type}(lt:α->α->Bool)(h:SWO lt)(l:List α)(hl:l.Pairwise (fun a b=>lt a b=true)):Z2 lt l=l:=by
 have:∀ (l acc:List α),(acc++l).Pairwise (fun a b=>lt a b=true)->l.foldl (fun acc x=>Tc lt x acc) acc=acc++l:=by
  intro l
  induction l with
  | nil=>intro acc _;simp
  | cons x l ih =>
   intro acc hp;rw[List.foldl_cons,D7 lt x acc (fun y hy=>?_),ih (acc++[x]) (by simpa using hp)]
   ·simp
   ·have:=(List.pairwise_append.1 hp).2.2 y hy x (by simp)
    cases hq:lt x y with
    | false=>rfl
    | true=>have z:=h.trans _ _ _ this hq;rw[h.irrefl]at z;cases z
 have:=this l [] (by simpa using hl);simpa [Z2] using this
theorem Dr:∀ a b:List UInt8,Op.bytesLess a b=true ↔ a<b
 | [],[]=>by simp[Op.bytesLess]
 | [],_::_=>by simp[Op.bytesLess]
 | _::_,[]=>by simp[Op.bytesLess]
 | a::l,b::m=>by
  rw[List.cons_lt_cons_iff];unfold Op.bytesLess;rw[Bool.or_eq_true,Bool.and_eq_true,decide_eq_true_eq,beq_iff_eq,Dr l m]
theorem Zhn{us:List GRec}(h:ruB us=true)(hz:∀ u∈us,u.text.size<=2147483647)(hl:us.length<=1000)(hs:Rb (us.map GRec.text)<=50000):Za2 us:=by
 unfold ruB at h;rw[Bool.and_eq_true,List.all_eq_true]at h;obtain⟨h1,h2⟩:=h;unfold Jt at h2;rw[Bool.and_eq_true,List.all_eq_true,decide_eq_true_eq,List.length_map]at h2;obtain⟨h2,h3⟩:=h2
 have hrec:∀ u∈us,(∀ c∈Zd u.text,R8 (Y4 c)=false)/\1<=u.tokens.length/\u.tokens.length=u.yomi.length:=by
  intro u hu;have:=h1 u hu;unfold Ok at this;simp only[Bool.and_eq_true,List.all_eq_true,decide_eq_true_eq,Bool.not_eq_true']at this;exact this
 have hat:∀ i (hi:i<us.length),(us[i].text.size≠0/\Wa us[i].text=true)/\(∀ j (hj:j<us.length),i=j+1->Vc us[j].text us[i].text=true):=by
  intro i hi;have:=h2 i (by simpa using hi);unfold Oq at this;rw[List.getElem?_eq_getElem (by simpa using hi)]at this;simp only[Bool.and_eq_true,decide_eq_true_eq,Bool.or_eq_true,beq_iff_eq,List.getElem_map]at this;refine⟨this.1,fun j hj e=>?_⟩;rcases this.2 with q|q
  ·omega
  ·have e2:i-1=j:=by omega
   rw[e2,List.getElem?_eq_getElem (by simpa using hj)]at q;simp only[Bool.and_eq_true,Bool.not_eq_true',List.getElem_map,beq_eq_false_iff_ne]at q;rw[Xh]
   have n1:¬ us[i].text.data.toList<us[j].text.data.toList:=fun z=>by
    have:=(Dr _ _).2 z;rw[ByteArray.toList_eq,ByteArray.toList_eq]at q;rw[this]at q;exact absurd q.1 (by simp)
   apply Decidable.byContradiction;intro z;have:=List.le_antisymm (List.not_lt.1 z) (List.not_lt.1 n1);rw[ByteArray.toList_eq,ByteArray.toList_eq]at q;exact q.2 this
 refine⟨?_,fun u hu=>?_,fun u hu=>Zhq (hrec u hu).1,fun u hu=>(hrec u hu).2,hz,h3,hl,hs⟩
 ·have hst:∀ (n i j:Nat) (hi:i<us.length) (hj:j<us.length),j=i+1+n->Vc us[i].text us[j].text=true:=by
   intro n
   induction n with
   | zero=>intro i j hi hj e;exact (hat j hj).2 i hi (by omega)
   | succ n ih=>intro i j hi hj e;exact bytesLt_swo.trans _ _ _ (ih i (j-1) hi (by omega) (by omega)) ((hat j hj).2 (j-1) (by omega) (by omega))
  rw[List.pairwise_map,List.pairwise_iff_getElem];intro i j hi hj hij;exact hst (j-i-1) i j hi hj (by omega)
 ·obtain⟨i,hi,rfl⟩:=List.getElem_of_mem hu;obtain⟨⟨a1,a2⟩,_⟩:=hat i hi;have hv:=(hrec _ hu).1
  have hg:=Gk _ (Nat.le_refl _) (fun c hc e=>by
   have:=hv c hc;rw[e]at this
   exact absurd this (by decide))
  unfold Wl
  have hval:Lib.validD us[i].text.data.toList=true:=by
   rw[<- Ti];exact good_valid _ (fun c hc=>(hg c hc).1)
  rw[hval,Bool.and_true,Bool.and_eq_true,decide_eq_true_eq];refine⟨fun q=>?_,?_⟩
  ·unfold Wa inB at a2;simp at a2;exact a2 (by simpa using q)
  ·cases hq:us[i].text.data.toList with
   | nil =>
    have:us[i].text.data.toList.length=us[i].text.size:=by rw[Array.length_toList];rfl
    rw[hq]at this;exact absurd this.symm a1
   | cons x l=>rfl
end Go.Proofs.YtoliamijgmifkaaGreatDoor
