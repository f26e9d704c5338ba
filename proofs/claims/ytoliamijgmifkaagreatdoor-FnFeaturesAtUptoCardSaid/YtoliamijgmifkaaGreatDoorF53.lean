/- laws.FnFeaturesAt returns true at every dictionary, every text, every mode and every place, and the arguments read as before: the given card of the second form, whole. Conditions: none but the given row's own (what is read is of bulk at most 1048576; the twelve listed variables hold what their text lays). -/
import Derived.Test.YtoliamijgmifkaaGreatDoorF4
import Derived.Test.YtoliamijgmifkaaGreatDoorF7
import Derived.Test.YtoliamijgmifkaaGreatDoorF51
import Derived.Test.YtoliamijgmifkaaGreatDoorF52
set_option linter.all false
set_option maxRecDepth 100000
namespace Go.Proofs.YtoliamijgmifkaaGreatDoor
open Go.ChangeShapes Go.WideShapes Go.ChangeAt Go.RowKit Go.Shelf
open Go.ChangeMaps (open_string shut_string)
def Zdz:Value:=.agg #[.slice none 0 0,.int .i64 0,.int .i64 0,.slice none 0 0,.slice none 0 0,.slice none 0 0,.slice none 0 0,.slice none 0 0,.slice none 0 0,.bool false,.slice none 0 0]
def featArgs:Array Value:=#[Zdz,.string .empty,.int .i64 0,.int .i64 0]
theorem Zal(os:Os){H:Type}(enc:TypeId × Value->H) :
  (Rows.OpenSpec.upto Rows.fnFeaturesAtSpec).preRow enc Tryz.prog Tryz.f7 Rows.fnFeaturesAtUptoRow.domain false Rows.fnFeaturesAtUptoRow.laid ((Xq os).forCall (fun _ _=>0) ⟨#[],featArgs,[]⟩).memory featArgs:=by
 have hw:(DataW.whole enc Tryz.prog ((Xq os).forCall (fun _ _=>0) ⟨#[],featArgs,[]⟩).memory Tryz.f7.params.toList Rows.fnFeaturesAtSpec.vars false featArgs.toList 12).map (fun x=>(x.1,x.2.1)) =
   some ([.agg [.nil,.lit (.int .i64 0),.lit (.int .i64 0),.nil,.nil,.nil,.nil,.nil,.nil,.lit (.bool false),.nil],.lit (.string []),.lit (.int .i64 0),.lit (.int .i64 0)],[]):=by kernel_rfl
 obtain⟨⟨x1,x2,x3⟩,hx,hx1⟩:=Option.map_eq_some_iff.1 hw;simp only[Prod.mk.injEq]at hx1;obtain⟨rfl,rfl⟩:=hx1;exact OpenSpec.preRow_of_cond 12 hx (by kernel_rfl) (fun k hk=>by cases hk;kernel_rfl) (by kernel_rfl) (Zf3 os _)
theorem Ck(os:Os)(started:os.Started)(H:Type)(enc:TypeId × Value->H)(F:Stop.Interp) :
  ReturnsInHanded {} Tryz.checked os 7 .any ((Rows.OpenSpec.upto Rows.fnFeaturesAtSpec).preRow enc Tryz.prog Tryz.f7 Rows.fnFeaturesAtUptoRow.domain false Rows.fnFeaturesAtUptoRow.laid) (((Rows.OpenSpec.upto Rows.fnFeaturesAtSpec).at F).post enc Tryz.prog Tryz.f7 false true false false):=by
 refine returnsInHanded_of_row (C:=Tryz.checked) (s:=Rows.OpenSpec.upto Rows.fnFeaturesAtSpec) Zfq started (by kernel_rfl) Tryz.func7
  (witness_row_atRef (enc:=enc) (C:=Tryz.checked) false (Xq os) featArgs rfl (by kernel_rfl) (by kernel_rfl) (by kernel_rfl) (Zal os enc)) ?_
 intro W base args ds gs before hval0 hW _ hcond _ hL _ _;have hval:∀ (j:Nat) t v,Tryz.f7.params[j]? = some t->args[j]? = some v->Value.okWide Tryz.prog W .any base t v:=hval0;have hU:Tbs W:=Zjk hL;have hk:=hcond _ rfl;have hW':=hW;obtain⟨p,q,hA0,hV0,rfl,_,_⟩:=hW;have hA:DataW.TrodAll enc Tryz.prog W 0 (fun _=>true) true Tryz.f7.params.toList args.toList ds p:=hA0;rw[Tryz.params7]at hA hval;obtain⟨v0,v1,v2,v3,d0,d1,d2,d3,p0,p1,p2,p3,rfl,rfl,rfl,h0,h1,h2,h3⟩:=trodAll_four hA;obtain⟨rfl,rfl⟩:=trodVars_none hV0;obtain⟨s,rfl,rfl,rfl,ws⟩:=open_string Tryz.underlying9 (hval 1 9 v1 rfl rfl) h1;obtain⟨m,rfl,rfl,rfl,wm⟩:=open_int Tryz.underlying3 (hval 2 3 v2 rfl rfl) h2;obtain⟨i,rfl,rfl,rfl,wi⟩:=open_int Tryz.underlying3 (hval 3 3 v3 rfl rfl) h3;obtain⟨cs,rfl,_⟩:=okWide_struct Tryz.underlying30 (hval 0 30 v0 rfl rfl);clear hA0 hV0 hval0;simp only[List.append_nil]at hW';have hlt:∀ x∈p0,x.block<W.heap.size:=fun x hx=>by simpa using hW'.lt x (by simpa using hx)
 obtain⟨fuel,hf⟩:=h0;obtain⟨d,hd,hm⟩:=Zfi enc W (fun _=>true) fuel cs.toList _ hf
 have hb:∀ u∈d.user,total u.tokens<=1048576/\total u.yomi<=1048576:=by
  have hk0:Rows.uptoBulkAll _<=1048576:=of_decide_eq_true hk
  have hall:(d.user.map Jq).sum<=1048576:=by
   refine Nat.le_trans hm (Nat.le_trans ?_ hk0);exact Zg3 (by simp)
  intro u hu;have h1:Jq u<=(d.user.map Jq).sum:=Zbg Jq hu;have h2:Jq u=total u.tokens+total u.yomi:=rfl;omega
 have hi:-9223372036854775808<=i/\i<=9223372036854775807:=bounds_i64 wi;have hs:s.size<=9223372036854775807:=by unfold maxLen at ws;omega
 refine (Zak d cs.toList (fun _=>True) s m i W hd hs hi hU hb).mono ?_;rintro e W' ⟨rfl,ex⟩;have bel:=Fr.below ex;refine⟨_,rfl,_,_,_,[],p0++([]++([]++[])),[],hW',?_,?_,?_,bel.frame _,fun h=>by cases h⟩
 ·exact trodAll_mk1 (shut_bool Tryz.underlying4 _)
 ·exact trodAll_mk4 (Below.trod Zf2 (by kernel_rfl) (of_decide_eq_true (by kernel_rfl)) ⟨fuel,hf⟩ bel hlt) (shut_string Tryz.underlying9 ws) (shut_int Tryz.underlying3 wm) (shut_int Tryz.underlying3 wi)
 ·rfl
theorem O9:Rows.FnFeaturesAtUptoSaid :=
 OpenClaim.holds_of_cond 7 Tryz.f7 rfl rfl rfl rfl rfl rfl rfl ⟨rfl,rfl,rfl,rfl,rfl⟩ rfl rfl rfl rfl rfl (by kernel_rfl) Tryz.func7 Su
  (of_decide_eq_true (by kernel_rfl)) (by unfold Func.isWrapper;first|(rw[if_pos (by decide +kernel)];kernel_rfl)|(rw[if_neg (by decide +kernel)];exact⟨rfl,rfl⟩))
  (fun os started H enc _ F=>by rw[OpenClaim.pre_eq_preRow];exact Ck os started H enc F)
theorem Zam(f:FuncId)(fn:Func)(hf:Tryz.pinned.checked.prog.funcNamed "pub-kaeriten/laws.FnFeaturesAt" = some f)(hfn:Tryz.pinned.checked.prog.funcs[f]? = some fn) :
  false=Tryz.pinned.checked.prog.looks []/\∀ (j:Nat) t,fn.params[j]? = some t->Tryz.pinned.checked.prog.wantsStandIn t=false:=by
 obtain rfl:f=7:=Option.some.inj ((show Tryz.prog.funcNamed "pub-kaeriten/laws.FnFeaturesAt" = some 7 by kernel_rfl).symm.trans hf) |>.symm;obtain rfl:fn=Tryz.f7:=(Option.some.inj (Tryz.func7.symm.trans hfn)).symm;refine⟨by kernel_rfl,fun j t ht=>?_⟩;rw[Tryz.params7]at ht;have:t=30\/t=9\/t=3:=by have:=Array.mem_of_getElem? ht;simp at this;omega
 rcases this with rfl|rfl|rfl
 ·exact (show Tryz.prog.wantsStandIn 30=false by kernel_rfl)
 ·exact (show Tryz.prog.wantsStandIn 9=false by kernel_rfl)
 ·exact (show Tryz.prog.wantsStandIn 3=false by kernel_rfl)
theorem fnFeaturesAt_card:Rows.FnFeaturesAtUptoCardSaid :=
 Claim7.holds_tied_plain_at .later [] _ _ _ _ O9 (fun _ h=>by cases h) (by kernel_rfl) (fun _ h=>by cases h) fnFeaturesAtUpto_row_tie rfl ⟨rfl,rfl⟩ (by kernel_rfl) rfl Zam (by kernel_rfl)
#print axioms fnFeaturesAt_card
end Go.Proofs.YtoliamijgmifkaaGreatDoor
