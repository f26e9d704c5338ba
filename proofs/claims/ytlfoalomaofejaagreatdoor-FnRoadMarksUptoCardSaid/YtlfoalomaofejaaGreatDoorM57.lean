/- laws.FnRoadMarks returns true at every dictionary, every text and every mode, and the arguments read as before. Conditions: none but the given row's own (what is read is of bulk at most 1048576; the fifteen listed variables hold what their text lays). -/
import Derived.Test.YtlfoalomaofejaaGreatDoorM55
import Derived.Test.YtlfoalomaofejaaGreatDoorM56
set_option linter.all false
set_option maxRecDepth 100000
namespace Go.Proofs.YtlfoalomaofejaaGreatDoor
open Go.ChangeShapes Go.WideShapes Go.ChangeAt Go.RowKit Go.Shelf
open Go.ChangeMaps (open_string shut_string)
def Zhf:Value:=.agg #[.slice none 0 0,.int .i64 0,.int .i64 0,.slice none 0 0,.slice none 0 0,.slice none 0 0,.slice none 0 0,.slice none 0 0,.slice none 0 0,.bool false,.slice none 0 0]
def markArgs:Array Value:=#[Zhf,.string .empty,.int .i64 0]
theorem Zda(os:Os){H:Type}(enc:TypeId×Value->H) :
  (Rows.OpenSpec.upto Rows.fnRoadMarksSpec).preRow enc Tryz.prog Tryz.f7 Rows.fnRoadMarksUptoRow.domain false Rows.fnRoadMarksUptoRow.laid ((Wd os).forCall (λ_ _=>0) ⟨#[],markArgs,[]⟩).memory markArgs:=by
 have z:(DataW.whole enc Tryz.prog ((Wd os).forCall (λ_ _=>0) ⟨#[],markArgs,[]⟩).memory Tryz.f7.params.toList Rows.fnRoadMarksSpec.vars false markArgs.toList 12).map (λx=>(x.1,x.2.1)) =
   some ([.agg [.nil,.lit (.int .i64 0),.lit (.int .i64 0),.nil,.nil,.nil,.nil,.nil,.nil,.lit (.bool false),.nil],.lit (.string []),.lit (.int .i64 0)],[]):=Kr
 obtain⟨⟨J,I,G⟩,q,h⟩:=Option.map_eq_some_iff.1 z;simp only[Prod.mk.injEq]at h;obtain⟨rfl,rfl⟩:=h;exact OpenSpec.preRow_of_cond 12 q Kr (λk A=>by cases A;kernel_rfl) Kr (Zjm os _)
theorem Za2(os:Os)(A:os.Started)(H:Type)(enc:TypeId×Value->H)(F:Stop.Interp) :
  ReturnsInHanded {} Tryz.checked os 7 .any ((Rows.OpenSpec.upto Rows.fnRoadMarksSpec).preRow enc Tryz.prog Tryz.f7 Rows.fnRoadMarksUptoRow.domain false Rows.fnRoadMarksUptoRow.laid) (((Rows.OpenSpec.upto Rows.fnRoadMarksSpec).at F).post enc Tryz.prog Tryz.f7 false true false false):=by
 refine returnsInHanded_of_row (C:=Tryz.checked) (s:=Rows.OpenSpec.upto Rows.fnRoadMarksSpec) Zi4 A Kr Tryz.func7
  (witness_row_atRef (enc:=enc) (C:=Tryz.checked) false (Wd os) markArgs rfl Kr Kr Kr (Zda os enc)) ?_
 intro W base args ds gs X G hW _ J _ hL _ _;have z:∀ (j:Nat) t v,Tryz.f7.params[j]?=some t->args[j]?=some v->Value.okWide Tryz.prog W .any base t v:=G;have hU:Tbs W:=Zng hL;have hk:=J _ rfl;have K:=hW;obtain⟨p,q,U,M,rfl,_,_⟩:=hW;have hA:DataW.TrodAll enc Tryz.prog W 0 (λ_=>true) true Tryz.f7.params.toList args.toList ds p:=U;rw[Tryz.params7]at hA z;obtain⟨v0,v1,v2,d0,d1,d2,p0,p1,p2,rfl,rfl,rfl,h0,h1,h2⟩:=trodAll_three hA;obtain⟨rfl,rfl⟩:=trodVars_none M;obtain⟨s,rfl,rfl,rfl,ws⟩:=open_string Tryz.underlying9 (z 1 9 v1 rfl rfl) h1;obtain⟨m,rfl,rfl,rfl,wm⟩:=open_int Tryz.underlying3 (z 2 3 v2 rfl rfl) h2;obtain⟨cs,rfl,_⟩:=okWide_struct Tryz.underlying30 (z 0 30 v0 rfl rfl);clear U M G;simp only[List.append_nil]at K;have Y:∀ x∈p0,x.block<W.heap.size:=λx hx=>by simpa using K.lt x (by simpa using hx)
 obtain⟨fuel,hf⟩:=h0;obtain⟨d,hd,hm⟩:=Zgk enc W (λ_=>true) fuel cs.toList _ hf
 have Z:(d.meta0.map λm=>m.name.size+1).sum<=1048576:=by
  have I:Rows.uptoBulkAll _<=1048576:=of_decide_eq_true hk
  have L:(d.user.map N2).sum+(d.meta0.map λm=>m.name.size+1).sum<=1048576:=by
   refine Nt hm (Nt ?_ I);exact Zb3 (by simp)
  omega
 have hb:∀ u∈d.user,total u.tokens<=1048576/\total u.yomi<=1048576:=by
  have I:Rows.uptoBulkAll _<=1048576:=of_decide_eq_true hk
  have L:(d.user.map N2).sum+(d.meta0.map λm=>m.name.size+1).sum<=1048576:=by
   refine Nt hm (Nt ?_ I);exact Zb3 (by simp)
  intro u hu;have h1:N2 u<=(d.user.map N2).sum:=Zel N2 hu;have h2:N2 u=total u.tokens+total u.yomi:=rfl;omega
 have hs:s.size<=9223372036854775807:=by unfold maxLen at ws;omega
 refine (Zbr d cs.toList (λ_=>True) s m W hd hs hU Z hb).mono ?_;rintro e W' ⟨rfl,ex⟩;have V:=Fr.below ex;refine⟨_,rfl,_,_,_,[],p0++([]++[]),[],K,?_,?_,?_,V.frame _,λh=>by cases h⟩
 ·exact trodAll_mk1 (shut_bool Tryz.underlying4 _)
 ·exact trodAll_mk3 (Below.trod Zjl Kr (of_decide_eq_true Kr) ⟨fuel,hf⟩ V Y) (shut_string Tryz.underlying9 ws) (shut_int Tryz.underlying3 wm)
 ·rfl
theorem Lx:Rows.FnRoadMarksUptoSaid :=
 OpenClaim.holds_of_cond 7 Tryz.f7 rfl rfl rfl rfl rfl rfl rfl ⟨rfl,rfl,rfl,rfl,rfl⟩ rfl rfl rfl rfl rfl Kr Tryz.func7 Qj
  (of_decide_eq_true Kr) (by unfold Func.isWrapper;first|(rw[if_pos (by decide +kernel)];kernel_rfl)|(rw[if_neg (by decide +kernel)];exact⟨rfl,rfl⟩))
  (λos h H enc _ F=>by rw[OpenClaim.pre_eq_preRow];exact Za2 os h H enc F)
theorem Zdb(f:FuncId)(q:Func)(A:Tryz.pinned.checked.prog.funcNamed "pub-kaeriten/laws.FnRoadMarks" = some f)(h:Tryz.pinned.checked.prog.funcs[f]?=some q) :
  true=Tryz.pinned.checked.prog.looks []/\∀ (j:Nat) t,q.params[j]?=some t->Tryz.pinned.checked.prog.wantsStandIn t=false:=by
 obtain rfl:f=7:=Option.some.inj (((Kr:Tryz.prog.funcNamed "pub-kaeriten/laws.FnRoadMarks" = some 7)).symm.trans A) |>.symm;obtain rfl:q=Tryz.f7:=(Option.some.inj (Tryz.func7.symm.trans h)).symm;refine⟨Kr,λj t z=>?_⟩;rw[Tryz.params7]at z;have:t=30\/t=9\/t=3:=by have:=Array.mem_of_getElem? z;simp at this;omega
 rcases this with rfl|rfl|rfl
 ·exact ((Kr:Tryz.prog.wantsStandIn 30=false))
 ·exact ((Kr:Tryz.prog.wantsStandIn 9=false))
 ·exact ((Kr:Tryz.prog.wantsStandIn 3=false))
theorem fnRoadMarks_card:Rows.FnRoadMarksUptoCardSaid :=
 Claim7.holds_tied_plain_at .later [] _ _ _ _ Lx (λ_ h=>by cases h) Kr (λ_ h=>by cases h) fnRoadMarksUpto_row_tie rfl ⟨rfl,rfl⟩ Kr rfl Zdb Kr
#print axioms fnRoadMarks_card
end Go.Proofs.YtlfoalomaofejaaGreatDoor
