/- laws.FnRoadContents returns true at every dictionary, every text and every mode, and the arguments read as before. Conditions: none but the given row's own (what is read is of bulk at most 1048576; the twelve listed variables hold what their text lays). -/
import Derived.Test.YtlfoalomaofejaaGreatDoorC52
import Derived.Test.YtlfoalomaofejaaGreatDoorC53
set_option linter.all false
set_option maxRecDepth 100000
namespace Go.Proofs.YtlfoalomaofejaaGreatDoor
open Go.ChangeShapes Go.WideShapes Go.ChangeAt Go.RowKit Go.Shelf
open Go.ChangeMaps (open_string shut_string)
def Zgb:Value:=.agg #[.slice none 0 0,.int .i64 0,.int .i64 0,.slice none 0 0,.slice none 0 0,.slice none 0 0,.slice none 0 0,.slice none 0 0,.slice none 0 0,.bool false,.slice none 0 0]
def contArgs:Array Value:=#[Zgb,.string .empty,.int .i64 0]
theorem Zc2(os:Os){H:Type}(enc:TypeId×Value->H) :
  (Rows.OpenSpec.upto Rows.fnRoadContentsSpec).preRow enc Tryz.prog Tryz.f5 Rows.fnRoadContentsUptoRow.domain false Rows.fnRoadContentsUptoRow.laid ((Xw os).forCall (λ_ _=>0) ⟨#[],contArgs,[]⟩).memory contArgs:=by
 have hw:(DataW.whole enc Tryz.prog ((Xw os).forCall (λ_ _=>0) ⟨#[],contArgs,[]⟩).memory Tryz.f5.params.toList Rows.fnRoadContentsSpec.vars false contArgs.toList 12).map (λx=>(x.1,x.2.1)) =
   some ([.agg [.nil,.lit (.int .i64 0),.lit (.int .i64 0),.nil,.nil,.nil,.nil,.nil,.nil,.lit (.bool false),.nil],.lit (.string []),.lit (.int .i64 0)],[]):=Kr
 obtain⟨⟨x1,x2,x3⟩,hx,hx1⟩:=Option.map_eq_some_iff.1 hw;simp only[Prod.mk.injEq]at hx1;obtain⟨rfl,rfl⟩:=hx1;exact OpenSpec.preRow_of_cond 12 hx Kr (λk hk=>by cases hk;kernel_rfl) Kr (Zig os _)
theorem Za9(os:Os)(started:os.Started)(H:Type)(enc:TypeId×Value->H)(F:Stop.Interp) :
  ReturnsInHanded {} Tryz.checked os 5 .any ((Rows.OpenSpec.upto Rows.fnRoadContentsSpec).preRow enc Tryz.prog Tryz.f5 Rows.fnRoadContentsUptoRow.domain false Rows.fnRoadContentsUptoRow.laid) (((Rows.OpenSpec.upto Rows.fnRoadContentsSpec).at F).post enc Tryz.prog Tryz.f5 false true false false):=by
 refine returnsInHanded_of_row (C:=Tryz.checked) (s:=Rows.OpenSpec.upto Rows.fnRoadContentsSpec) Zh1 started Kr Tryz.func5
  (witness_row_atRef (enc:=enc) (C:=Tryz.checked) false (Xw os) contArgs rfl Kr Kr Kr (Zc2 os enc)) ?_
 intro W base args ds gs before hval0 hW _ hcond _ hL _ _;have hval:∀ (j:Nat) t v,Tryz.f5.params[j]?=some t->args[j]?=some v->Value.okWide Tryz.prog W .any base t v:=hval0;have hU:Tbs W:=Zmg hL;have hk:=hcond _ rfl;have hW':=hW;obtain⟨p,q,hA0,hV0,rfl,_,_⟩:=hW;have hA:DataW.TrodAll enc Tryz.prog W 0 (λ_=>true) true Tryz.f5.params.toList args.toList ds p:=hA0;rw[Tryz.params5]at hA hval;obtain⟨v0,v1,v2,d0,d1,d2,p0,p1,p2,rfl,rfl,rfl,h0,h1,h2⟩:=trodAll_three hA;obtain⟨rfl,rfl⟩:=trodVars_none hV0;obtain⟨s,rfl,rfl,rfl,ws⟩:=open_string Tryz.underlying9 (hval 1 9 v1 rfl rfl) h1;obtain⟨m,rfl,rfl,rfl,wm⟩:=open_int Tryz.underlying3 (hval 2 3 v2 rfl rfl) h2;obtain⟨cs,rfl,_⟩:=okWide_struct Tryz.underlying30 (hval 0 30 v0 rfl rfl);clear hA0 hV0 hval0;simp only[List.append_nil]at hW';have hlt:∀ x∈p0,x.block<W.heap.size:=λx hx=>by simpa using hW'.lt x (by simpa using hx)
 obtain⟨fuel,hf⟩:=h0;obtain⟨d,hd,hm⟩:=Zht enc W (λ_=>true) fuel cs.toList _ hf
 have hb:∀ u∈d.user,total u.tokens<=1048576/\total u.yomi<=1048576:=by
  have hk0:Rows.uptoBulkAll _<=1048576:=of_decide_eq_true hk
  have hall:(d.user.map Ha).sum<=1048576:=by
   refine Nt hm (Nt ?_ hk0);exact Zjg (by simp)
  intro u hu;have h1:Ha u<=(d.user.map Ha).sum:=Zdp Ha hu;have h2:Ha u=total u.tokens+total u.yomi:=rfl;omega
 have hs:s.size<=9223372036854775807:=by unfold maxLen at ws;omega
 refine (Zcu d cs.toList (λ_=>True) s m W hd hs hU hb).mono ?_;rintro e W' ⟨rfl,ex⟩;have bel:=Fr.below ex;refine⟨_,rfl,_,_,_,[],p0++([]++[]),[],hW',?_,?_,?_,bel.frame _,λh=>by cases h⟩
 ·exact trodAll_mk1 (shut_bool Tryz.underlying4 _)
 ·exact trodAll_mk3 (Below.trod Zif Kr (of_decide_eq_true Kr) ⟨fuel,hf⟩ bel hlt) (shut_string Tryz.underlying9 ws) (shut_int Tryz.underlying3 wm)
 ·rfl
theorem P5:Rows.FnRoadContentsUptoSaid :=
 OpenClaim.holds_of_cond 5 Tryz.f5 rfl rfl rfl rfl rfl rfl rfl ⟨rfl,rfl,rfl,rfl,rfl⟩ rfl rfl rfl rfl rfl Kr Tryz.func5 Sg
  (of_decide_eq_true Kr) (by unfold Func.isWrapper;first|(rw[if_pos (by decide +kernel)];kernel_rfl)|(rw[if_neg (by decide +kernel)];exact⟨rfl,rfl⟩))
  (λos started H enc _ F=>by rw[OpenClaim.pre_eq_preRow];exact Za9 os started H enc F)
theorem Zc3(f:FuncId)(fn:Func)(hf:Tryz.pinned.checked.prog.funcNamed "pub-kaeriten/laws.FnRoadContents" = some f)(hfn:Tryz.pinned.checked.prog.funcs[f]?=some fn) :
  true=Tryz.pinned.checked.prog.looks []/\∀ (j:Nat) t,fn.params[j]?=some t->Tryz.pinned.checked.prog.wantsStandIn t=false:=by
 obtain rfl:f=5:=Option.some.inj (((Kr:Tryz.prog.funcNamed "pub-kaeriten/laws.FnRoadContents" = some 5)).symm.trans hf) |>.symm;obtain rfl:fn=Tryz.f5:=(Option.some.inj (Tryz.func5.symm.trans hfn)).symm;refine⟨Kr,λj t ht=>?_⟩;rw[Tryz.params5]at ht;have:t=30\/t=9\/t=3:=by have:=Array.mem_of_getElem? ht;simp at this;omega
 rcases this with rfl|rfl|rfl
 ·exact ((Kr:Tryz.prog.wantsStandIn 30=false))
 ·exact ((Kr:Tryz.prog.wantsStandIn 9=false))
 ·exact ((Kr:Tryz.prog.wantsStandIn 3=false))
theorem fnRoadContents_card:Rows.FnRoadContentsUptoCardSaid :=
 Claim7.holds_tied_plain_at .later [] _ _ _ _ P5 (λ_ h=>by cases h) Kr (λ_ h=>by cases h) fnRoadContentsUpto_row_tie rfl ⟨rfl,rfl⟩ Kr rfl Zc3 Kr
#print axioms fnRoadContents_card
end Go.Proofs.YtlfoalomaofejaaGreatDoor
