/- laws.FnDetailsKnown returns true at every dictionary, every text and every mode, and the arguments read as before: the given card of the second form, whole. Conditions: none but the given row's own (what is read is of bulk at most 1048576; the twelve listed variables hold what their text lays). -/
import Derived.Test.YtoliamijgmifkaaGreatDoorH53
import Derived.Test.YtoliamijgmifkaaGreatDoorH54
set_option linter.all false
set_option maxRecDepth 100000
namespace Go.Proofs.YtoliamijgmifkaaGreatDoor
open Go.ChangeShapes Go.WideShapes Go.ChangeAt Go.RowKit Go.Shelf
open Go.ChangeMaps (open_string shut_string)
def Uv:Value:=.agg #[.slice none 0 0,.int .i64 0,.int .i64 0,.slice none 0 0,.slice none 0 0,.slice none 0 0,.slice none 0 0,.slice none 0 0,.slice none 0 0,.bool false,.slice none 0 0]
def knownArgs:Array Value:=#[Uv,.string .empty,.int .i64 0]
theorem Zdf(os:Os){H:Type}(enc:TypeId×Value->H) :
  (Rows.OpenSpec.upto Rows.fnDetailsKnownSpec).preRow enc Tryz.prog Tryz.f3 Rows.fnDetailsKnownUptoRow.domain false Rows.fnDetailsKnownUptoRow.laid ((Yj os).forCall (λ_ _=>0) ⟨#[],knownArgs,[]⟩).memory knownArgs:=by
 have hw:(DataW.whole enc Tryz.prog ((Yj os).forCall (λ_ _=>0) ⟨#[],knownArgs,[]⟩).memory Tryz.f3.params.toList Rows.fnDetailsKnownSpec.vars false knownArgs.toList 12).map (λx=>(x.1,x.2.1)) =
   some ([.agg [.nil,.lit (.int .i64 0),.lit (.int .i64 0),.nil,.nil,.nil,.nil,.nil,.nil,.lit (.bool false),.nil],.lit (.string []),.lit (.int .i64 0)],[]):=Kr
 obtain⟨⟨x1,x2,x3⟩,hx,hx1⟩:=Option.map_eq_some_iff.1 hw;simp only[Prod.mk.injEq]at hx1;obtain⟨rfl,rfl⟩:=hx1;exact OpenSpec.preRow_of_cond 12 hx Kr (λk hk=>by cases hk;kernel_rfl) Kr (Ji os _)
theorem Zbc(os:Os)(started:os.Started)(H:Type)(enc:TypeId×Value->H)(F:Stop.Interp) :
  ReturnsInHanded {} Tryz.checked os 3 .any ((Rows.OpenSpec.upto Rows.fnDetailsKnownSpec).preRow enc Tryz.prog Tryz.f3 Rows.fnDetailsKnownUptoRow.domain false Rows.fnDetailsKnownUptoRow.laid) (((Rows.OpenSpec.upto Rows.fnDetailsKnownSpec).at F).post enc Tryz.prog Tryz.f3 false true false false):=by
 refine returnsInHanded_of_row (C:=Tryz.checked) (s:=Rows.OpenSpec.upto Rows.fnDetailsKnownSpec) Ja started Kr Tryz.func3
  (witness_row_atRef (enc:=enc) (C:=Tryz.checked) false (Yj os) knownArgs rfl Kr Kr Kr (Zdf os enc)) ?_
 intro W base args ds gs before hval0 hW _ hcond _ hL _ _;have hval:∀ (j:Nat) t v,Tryz.f3.params[j]?=some t->args[j]?=some v->Value.okWide Tryz.prog W .any base t v:=hval0;have hU:Di W:=Zak hL;have hk:=hcond _ rfl;have hW':=hW;obtain⟨p,q,hA0,hV0,rfl,_,_⟩:=hW;have hA:DataW.TrodAll enc Tryz.prog W 0 (λ_=>true) true Tryz.f3.params.toList args.toList ds p:=hA0;rw[Tryz.params3]at hA hval;obtain⟨v0,v1,v2,d0,d1,d2,p0,p1,p2,rfl,rfl,rfl,h0,h1,h2⟩:=trodAll_three hA;obtain⟨rfl,rfl⟩:=trodVars_none hV0;obtain⟨s,rfl,rfl,rfl,ws⟩:=open_string Tryz.underlying9 (hval 1 9 v1 rfl rfl) h1;obtain⟨m,rfl,rfl,rfl,wm⟩:=open_int Tryz.underlying3 (hval 2 3 v2 rfl rfl) h2;obtain⟨cs,rfl,_⟩:=okWide_struct Tryz.underlying30 (hval 0 30 v0 rfl rfl);clear hA0 hV0 hval0;simp only[List.append_nil]at hW';have hlt:∀ x∈p0,x.block<W.heap.size:=λx hx=>by simpa using hW'.lt x (by simpa using hx)
 obtain⟨fuel,hf⟩:=h0;obtain⟨d,hd,hm⟩:=Kx enc W (λ_=>true) fuel cs.toList _ hf
 have hb:∀ u∈d.user,total u.tokens<=1048576/\total u.yomi<=1048576:=by
  have hk0:Rows.uptoBulkAll _<=1048576:=of_decide_eq_true hk
  have hall:(d.user.map Tg).sum<=1048576:=by
   refine Nt hm (Nt ?_ hk0);exact J9 (by simp)
  intro u hu;have h1:Tg u<=(d.user.map Tg).sum:=Ks Tg hu;have h2:Tg u=total u.tokens+total u.yomi:=rfl;omega
 have hs:s.size<=9223372036854775807:=by unfold maxLen at ws;omega
 refine (Zd0 d cs.toList (λ_=>True) s m W hd hs hU hb).mono ?_;rintro e W' ⟨rfl,ex⟩;have bel:=Fr.below ex;refine⟨_,rfl,_,_,_,[],p0++([]++[]),[],hW',?_,?_,?_,bel.frame _,λh=>by cases h⟩
 ·exact trodAll_mk1 (shut_bool Tryz.underlying4 _)
 ·exact trodAll_mk3 (Below.trod Jh Kr (of_decide_eq_true Kr) ⟨fuel,hf⟩ bel hlt) (shut_string Tryz.underlying9 ws) (shut_int Tryz.underlying3 wm)
 ·rfl
theorem Mw:Rows.FnDetailsKnownUptoSaid :=
 OpenClaim.holds_of_cond 3 Tryz.f3 rfl rfl rfl rfl rfl rfl rfl ⟨rfl,rfl,rfl,rfl,rfl⟩ rfl rfl rfl rfl rfl Kr Tryz.func3 Sz
  (of_decide_eq_true Kr) (by unfold Func.isWrapper;first|(rw[if_pos (by decide +kernel)];kernel_rfl)|(rw[if_neg (by decide +kernel)];exact⟨rfl,rfl⟩))
  (λos started H enc _ F=>by rw[OpenClaim.pre_eq_preRow];exact Zbc os started H enc F)
theorem Zdg(f:FuncId)(fn:Func)(hf:Tryz.pinned.checked.prog.funcNamed "pub-kaeriten/laws.FnDetailsKnown" = some f)(hfn:Tryz.pinned.checked.prog.funcs[f]?=some fn) :
  false=Tryz.pinned.checked.prog.looks []/\∀ (j:Nat) t,fn.params[j]?=some t->Tryz.pinned.checked.prog.wantsStandIn t=false:=by
 obtain rfl:f=3:=Option.some.inj ((Kr:Tryz.prog.funcNamed "pub-kaeriten/laws.FnDetailsKnown" = some 3).symm.trans hf) |>.symm;obtain rfl:fn=Tryz.f3:=(Option.some.inj (Tryz.func3.symm.trans hfn)).symm;refine⟨Kr,λj t ht=>?_⟩;rw[Tryz.params3]at ht;have:t=30\/t=9\/t=3:=by have:=Array.mem_of_getElem? ht;simp at this;omega
 rcases this with rfl|rfl|rfl
 ·exact ((Kr:Tryz.prog.wantsStandIn 30=false))
 ·exact ((Kr:Tryz.prog.wantsStandIn 9=false))
 ·exact ((Kr:Tryz.prog.wantsStandIn 3=false))
theorem fnDetailsKnown_card:Rows.FnDetailsKnownUptoCardSaid :=
 Claim7.holds_tied_plain_at .later [] _ _ _ _ Mw (λ_ h=>by cases h) Kr (λ_ h=>by cases h) fnDetailsKnownUpto_row_tie rfl ⟨rfl,rfl⟩ Kr rfl Zdg Kr
#print axioms fnDetailsKnown_card
end Go.Proofs.YtoliamijgmifkaaGreatDoor
