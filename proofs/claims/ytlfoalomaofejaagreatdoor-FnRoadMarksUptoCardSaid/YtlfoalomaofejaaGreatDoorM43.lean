/- impl.Details. -/
import Derived.Test.YtlfoalomaofejaaGreatDoorM42
import Derived.Deep.MidRow
set_option linter.all false
set_option maxRecDepth 100000
set_option maxHeartbeats 4000000
namespace Go.Proofs.YtlfoalomaofejaaGreatDoor
open Go.RowKit DT SS TR LT Go
abbrev Te:TypeId:=66
structure Zoa where
 feats:List ByteArray
 pos:List ByteArray
 base:Option ByteArray
 read:Option ByteArray
 pron:Option ByteArray
 typ:Option ByteArray
 form:Option ByteArray
 extra:Option (List ByteArray×List ByteArray)
 text:ByteArray
 cls:ByteArray
 dbase:ByteArray
 dread:ByteArray
 dpron:ByteArray
def Kv(d:Zg)(us:List GRec)(t:Y0):Zoa :=
 ⟨Y8 d us t,O6 d us t,Zo d us t Ue,Zo d us t Uc,Zo d us t Ud,Zo d us t Iw,Zo d us t Pr,Px us t,Zcr t,Yj t.cls,(Zo d us t Ue).getD ⟨#[]⟩,(Zo d us t Uc).getD ⟨#[]⟩,(Zo d us t Ud).getD ⟨#[]⟩⟩
abbrev Zos(x:Zoa)(vF z q h:Value):List Value :=
 [vF,z,.string (x.base.getD ⟨#[]⟩),.bool x.base.isSome,.string (x.read.getD ⟨#[]⟩),.bool x.read.isSome,.string (x.pron.getD ⟨#[]⟩),.bool x.pron.isSome,.string (x.typ.getD ⟨#[]⟩),.bool x.typ.isSome,.string (x.form.getD ⟨#[]⟩),.bool x.form.isSome,.bool x.extra.isSome,q,h,.string x.text,.string x.cls,.string x.dbase,.string x.dread,.string x.dpron]
def tDet:Ty Zoa where
 sz:=20
 R:=λw O x cs=>∃ vF A z q,cs=Zos x vF A z q/\strs.R w O x.feats [vF]/\strs.R w O x.pos [A]/\strs.R w O ((x.extra.map (·.1)).getD []) [z]/\strs.R w O ((x.extra.map (·.2)).getD []) [q]
 len:=by rintro _ _ x cs ⟨vF,A,z,q,rfl,_⟩;rfl
 one:=by
  rintro w O x cs ⟨vF,A,z,q,rfl,h1,h2,h3,h4⟩ u I;have h1:=strs.one h1 vF (by simp);have h2:=strs.one h2 A (by simp);have h3:=strs.one h3 z (by simp);have h4:=strs.one h4 q (by simp);simp only[Zos,List.mem_cons,List.mem_nil_iff,or_false]at I;rcases I with rfl|rfl|rfl|rfl|rfl|rfl|rfl|rfl|rfl|rfl|rfl|rfl|rfl|rfl|rfl|rfl|rfl|rfl|rfl|rfl<;>first|assumption|rfl
 mono:=by
  rintro w O O' x cs h ⟨vF,A,z,q,e,h1,h2,h3,h4⟩;exact⟨vF,A,z,q,e,strs.mono h h1,strs.mono h h2,strs.mono h h3,strs.mono h h4⟩
 move:=by
  rintro w w' O x cs h G ⟨vF,A,z,q,e,h1,h2,h3,h4⟩;exact⟨vF,A,z,q,e,strs.move h G h1,strs.move h G h2,strs.move h G h3,strs.move h G h4⟩
theorem Zmd:P0 Tryz.prog Te 20 304:=Rq Kr
theorem Zes{g:Nat}{T:TypeId}:∀ (l:List Value) (W:World) (j:Nat) (cs:List Value),W.heap[g]?=some (.cells cs.toArray T (0,0))->j+l.length=cs.length->(W.setCells g j l).heap[g]?=some (.cells (cs.take j++l).toArray T (0,0))/\Fr (λk=>k=g) W (W.setCells g j l)
 | [],W,j,cs,h,hl=>by
  refine⟨?_,Fl _⟩;rw[List.append_nil,List.take_of_length_le (by simp at hl;omega)];exact h
 | v::l,W,j,cs,h,hl=>by
  rw[List.length_cons]at hl;have z:j<cs.length:=Om
  have h1:(W.setCell ⟨g,j,none⟩ v).heap[g]?=some (.cells (cs.set j v).toArray T (0,0)):=by
   have:=Yt h j v;rwa[List.setIfInBounds_toArray]at this
  obtain⟨a,b⟩:=Zes l _ (j+1) (cs.set j v) h1 (by rw[List.length_set];omega);have A:Fr (λk=>k=g) W (W.setCell ⟨g,j,none⟩ v):=(Fl W).setCell ⟨g,j,none⟩ v (λ_=>rfl);refine⟨?_,A.trans b (λ_ _ q=>q)⟩
  have e:(cs.set j v).take (j+1)++l=cs.take j++v::l:=by
   rw[List.take_succ_eq_append_getElem (by rw[List.length_set];exact z),List.getElem_set_self,List.take_set_of_le (Nl j),List.append_assoc];rfl
  rw[e]at a;exact a
theorem Zlu{W:World}{g:Nat}{T:TypeId}{cs:Array Value}(h:W.heap[g]?=some (.cells cs T (0,0)))(l:List Value)(hl:l.length=cs.toList.length):(W.setCells g 0 l).heap[g]?=some (.cells l.toArray T (0,0))/\Fr (λk=>k=g) W (W.setCells g 0 l):=by
 have:=Zes l W 0 cs.toList h Om;rwa[List.take_zero,List.nil_append]at this
theorem Zgj(A:Option Addr)(n c:Nat)(B:Option Addr)(m k:Nat)(b0 b1 Z Y X W V:ByteArray)(K J I G z:Bool)(U M L:ByteArray)(q:Bool)(C D:Value)(hC:C.oneCell'=true)(hD:D.oneCell'=true) :
  ∀ v∈([.slice A n c,.slice B m k,.string b0,.bool K,.string b1,.bool J,.string Z,.bool I,.string Y,.bool G,.string X,.bool z,.bool q,C,D,.string W,.string V,.string U,.string M,.string L]:List Value),v.oneCell'=true:=by
 intro v h;simp only[List.mem_cons,List.mem_nil_iff,or_false]at h;rcases h with rfl|rfl|rfl|rfl|rfl|rfl|rfl|rfl|rfl|rfl|rfl|rfl|rfl|rfl|rfl|rfl|rfl|rfl|rfl|rfl<;>first|assumption|rfl
theorem Zaa{P:Program}{ops:Array Oper}{o:Oper}{a:Act}{w:World}{K:Act->World->Prop}{Q:Exit->Act->World->Prop}{E:Prop}(X:o.guard=none)(hd:o.dst=none)(ty:TypeId)(x y:Operand)(W:o.op=.store ty x y)(b:Nat)(cells q:Array Value)(T:TypeId)
  (z:w.heap[b]?=some (.cells q T (0,0))) (G:cells.toList.length=q.toList.length) (U:a.eval x=.pointer (some ⟨b,0,none⟩)) (M:a.eval y=.agg cells) (hi:(P.info? ty).map (·.size)=some cells.size) (h1:cells.all (·.oneCell')=true)
  (h:∀ A,A.heap[b]?=some (.cells cells T (0,0))->Fr (λk=>k=b) w A->K a A):if Region.wanted o (yielded ops a.tmps)=true then Oper.wp P o a w K Q else E:=by
 have V:Region.wanted o (yielded ops a.tmps)=true:=by simp[Region.wanted,X]
 rw[if_pos V];obtain⟨L,J⟩:=Zlu z cells.toList G;refine wp_store_mid ty x y W b 0 cells U M (λj I=>?_) hi h1 (by rw[hd];exact h _ L J);have I:j<q.size:=by simp only[Array.length_toList]at G;omega
 rw[Nat.zero_add];refine⟨?_,Zi z j⟩;rw[cell_of z j q[j] (Array.getElem?_eq_getElem I)];rfl
theorem Zhn(p q:Addr)(w:World) :
  CallsD Tryz.prog 68 #[.pointer (some p),.pointer (some q)] .returning w λe h w'=>e=.returned (.tuple #[])/\h=.returning/\w'=w:=by
 refine callsD_of_wpS Tryz.func68 rfl λA cs z=>?_
 apply wpS_seq;apply wpS_region;simp[wpOpsS,go_sem,recoverD,z,Tryz.ntmps68,Exit.thenS];refine wpS_cond (t:=false) (by simp[Act.eval,Array.replicate]) ?_;simp only[Bool.false_eq_true,if_false];refine wpS_of_wp (wp_skip ?_);cases A;simp_all [bodyPostS,results,Tryz.results68]
theorem Ku(d:Zg)(cs:List Value)(O:Nat->Prop)(ag:Option (List ByteArray))(X:XU)(us:List GRec)(s:ByteArray)(hs:Rd s)(fg:s.size<=300)(ae:Int)(w:World)(h:tDict.R w O d cs)(eb:Tbs w)(hT:U8 w)(hd:Hr d)(hr:Zl d=true)(ec:Jo d cs ag X w)
    (ee:∀ W v kd H U ku w',Zk4 d ag X false ae s W v kd H U ku w'->Vd d us kd (Zgn ag ku) H U w') (ef:∀ t∈Ww (Z3 d ag) false (Rm ae) s,Uh d us t) (cc:(Ww (Z3 d ag) false (Rm ae) s).length<=1000000000) :
    Calls Tryz.prog 24 #[.agg cs.toArray,.string s,.int .i64 ae] w λe w'=>∃ v,e=.returned (.tuple #[v,.int .i64 0])/\RowK tDet Te v ((Ww (Z3 d ag) false (Rm ae) s).map (Kv d us)) w.heap.size w'/\Zf w w':=by
  have mixed:Tryz.prog.follows .mixedOrders=true:=Kr
  have H:=Hd (Ai1 h (Ai1 hT ec));have HD:=Hd (Ai1 hd hr);have fm:=Hd eb;clear eb;have HQ:=Hd (Ai1 ee ef);obtain⟨A1,c1,A2,c2,A3,c3,A4,c4,A5,c5,A6,c6,A7,c7,A8,c8,rfl,_⟩:=Y4 h;clear h hT ec hd hr ee ef;obtain⟨TL,df⟩:∃ TL,TL=Ww (Z3 d ag) false (Rm ae) s:=⟨_,rfl⟩;rw[<- df]at cc⊢;have e7:=Hd df;clear df;have gm:∀ (fn:Fn) (first cap:Array Value) (w:World),(Instr.makeFunc fn first cap).run Tryz.prog w=.ok (.func fn first cap) w:=λ_ _ _ _=>rfl
  go_enter_defers Tryz.func24,Tryz.ntmps24
  go_upto_region 5 with (first
    | (go_at_call 69;refine (Cz d _ O ag X s hs fg ae false _ (tDict.ext H.out.1 ((((Fl w).alloc _).alloc _).alloc _)) (H.out.2.1.ext ((((Fl w).alloc _).alloc _).alloc _)) HD.out.1 HD.out.2 (λom W f=>H.out.2.2 om W (((((Fl w).alloc _).alloc _).alloc _).then f))).mono ?_;rintro e w1 ⟨v,kd,HH,U,ku,rfl,hx⟩;obtain⟨b8,f8,b9,f9,l8,l9,d2⟩:=Gu hx.2.2.2.2.2;have HX:=Hd (Ai1 d2 hx);clear hx d2)
    | fail)
  obtain⟨bo,a1⟩:∃ bo,bo=w.heap.size+1:=⟨_,rfl⟩;obtain⟨be,de⟩:∃ be,be=bo+1:=⟨_,rfl⟩;rw[<- a1]at b8 f8 b9 f9 l8 l9⊢;rw[<- de]at b9 f9 l9⊢;have ab:=HX.out.2.1;obtain⟨Av,cv,hv⟩:=Zm ab;rw[<- e7.out]at ab hv;subst hv;have F1:Fr (λj=>j=be) w1 (w1.setCell ⟨be,0,none⟩ (.int .i64 0)):=(Fl w1).setCell _ _ (λ_=>rfl);have dg:w.heap.size+3<=(((w.alloc (.cells #[.slice A1 d.words.length c1,.int .i64 d.rows,.int .i64 d.cols,.slice A2 d.costs.length c2,.slice A3 d.classes.length c3,.slice A4 d.chars.length c4,.slice A5 d.unknown.length c5,.slice A6 d.meta0.length c6,.slice A7 d.unkMeta.length c7,.bool d.hasUser,.slice A8 d.user.length c8] 30)).alloc (.cells #[.slice none 0 0] 59)).alloc (.cells #[.int .i64 0] 3)).heap.size:=by rw[Za,Za,Za];omega
  have eg:w.heap.size+3<=HH:=Nt dg HX.out.2.2.2.2.2.1;have T1:=(HQ.out.1 _ _ _ _ _ _ _ HX.out.2).keep F1 (λb hb _ e=>Om);have R1:=Zr ab F1 (λj e=>by have:=Yo (g:=j) ab e;omega);have R1:=T0 R1 dg;have c8:=F1.cell b8 ((Om:¬ bo=be));have f8:=(F1.frozen b8 ((Om:¬ bo=be))).trans f8;have c9:(w1.setCell ⟨be,0,none⟩ (.int .i64 0)).cell? ⟨be,0,none⟩=some (.int .i64 0):=World.cell?_setCell_same' _ _ _ (by rw[b9];rfl);have f9:(w1.setCell ⟨be,0,none⟩ (.int .i64 0)).frozen? ⟨be,0,none⟩=false:=by rw[World.frozen?_setCell];exact f9
  have X1:Zf w (w1.setCell ⟨be,0,none⟩ (.int .i64 0)):=HX.out.1.trans F1 (λj hj e=>Om);have HW:=Hd (Ai1 X1 (Ai1 T1 (Ai1 eg R1)));have aw:=Hd (Ai1 a1 de);clear X1 T1 R1 eg dg F1 ab HX b8 b9 l8 l9 a1 de;generalize w1.setCell _ _=w2 at *;obtain⟨n,ai⟩:∃ n,n=TL.length:=⟨_,rfl⟩;have HN:=Hd ai;rw[<- ai]at cc⊢;clear ai;go_wp2_with fail
  have gq:bo<w2.heap.size:=lt_of_cell c8
  go_loopg [27] n (λg1 v27 wr=>∃ (i:Nat) (u:Value),v27=.int .i64 (i:Int)/\i<=n/\n<=i+g1/\wr.cell? ⟨bo,0,none⟩=some u/\wr.frozen? ⟨bo,0,none⟩=false/\Hid (RowK tDet Te u ((TL.take i).map (Kv d us)) w2.heap.size wr/\Fr (λj=>j=bo) w2 wr))
  case atStart=>exact⟨0,_,rfl,Om,Om,c8,f8,RowK.nil _,Fl _⟩
  case round =>
    obtain⟨i,u,rfl,hi,hg,co,fo,HR⟩:=hrel;obtain⟨Au,cu,hu⟩:=HR.out.1.own;rw[List.length_map,List.length_take,Nat.min_eq_left (by have:=HN.out;omega)]at hu;have HU:=Hd hu;clear hu;by_cases fh:i<n
    · have gn:(i:Int)<(n:Int):=Om
      have gj:(0:Int)<=(i:Int):=Om;have bs:i<TL.length:=by rw[<- HN.out];exact fh
      have ab:=HW.out.2.2.2;rw[<- HN.out]at ab;obtain⟨g,rfl,lg,aj⟩:=Zo2 ab HR.out.2 (λj hj _ e=>by have:=aw.out;omega) HN.out i bs;have HT:Hid (TL.take (i+1)=TL.take i++[TL[i]]):=List.take_succ_eq_append_getElem bs;have af:=Hd (HQ.out.2 TL[i] (by rw[<- e7.out];exact List.getElem_mem bs));have e8:=Hd (HW.out.2.1.keep HR.out.2 (λb hb _ e=>by have:=aw.out;have:=HW.out.2.2.1;omega));generalize TL[i]=t at *;have q0:wr.cell? ⟨g,i*9,none⟩=some (.int .i64 t.index):=aj 0 Om;have q1:wr.cell? ⟨g,i*9+1,none⟩=some (.int .i64 t.id):=aj 1 Om;have q2:wr.cell? ⟨g,i*9+2,none⟩=some (.int .i64 t.cls):=aj 2 Om;have q3:wr.cell? ⟨g,i*9+3,none⟩=some (.int .i64 t.pos):=aj 3 Om;have q4:wr.cell? ⟨g,i*9+4,none⟩=some (.int .i64 t.start):=aj 4 Om;have q5:wr.cell? ⟨g,i*9+5,none⟩=some (.int .i64 t.fin):=aj 5 Om;have q6:wr.cell? ⟨g,i*9+6,none⟩=some (.string t.surf):=aj 6 Om;have q7:wr.cell? ⟨g,i*9+7,none⟩=some (.pointer (some ⟨kd,0,none⟩)):=aj 7 Om;have q8:wr.cell? ⟨g,i*9+8,none⟩=some (.pointer (Zgn ag ku)):=aj 8 Om;generalize Zgn ag ku=pu at *;clear aj bs ab;go_upto_region 8 with fail
      obtain⟨tb,ay⟩:∃ tb,tb=wr.heap.size:=⟨_,rfl⟩;rw[<- ay];have K1:=alloc_at' wr (Zu kd pu t) ay;have X1:Zf wr (wr.alloc (Zu kd pu t)):=(Fl wr).alloc _;have e4:=X1.cell co id;have ez:=(X1.frozen co id).trans fo;have HL:Hid (∀ j,u.ownBlock=some j->w2.heap.size<=j/\j<tb):=λj e=>by rw[ay];exact HR.out.1.low j e
      have fj:=HW.out.2.1.dict.lt;have HG:=Hd (Ai1 (HR.out.1.ext X1) (HR.out.2.trans X1 (λ_ _ e=>e.elim)));have gl:w2.heap.size<=tb:=by rw[ay];exact HR.out.2.size
      have ft:tb<(wr.alloc (Zu kd pu t)).heap.size:=by rw[Za];omega
      have bw:Hid (∀ W,Zf (wr.alloc (Zu kd pu t)) W->W.cell? ⟨tb,0,none⟩=some (Value.int .i64 (t.index:Int))/\W.cell? ⟨tb,1,none⟩=some (Value.int .i64 t.id)/\W.cell? ⟨tb,2,none⟩=some (Value.int .i64 (t.cls:Int))/\W.cell? ⟨tb,3,none⟩=some (Value.int .i64 (t.pos:Int))/\W.cell? ⟨tb,4,none⟩=some (Value.int .i64 (t.start:Int))/\W.cell? ⟨tb,5,none⟩=some (Value.int .i64 (t.fin:Int))/\W.cell? ⟨tb,6,none⟩=some (Value.string t.surf)/\W.cell? ⟨tb,7,none⟩=some (Value.pointer (some ⟨kd,0,none⟩))/\W.cell? ⟨tb,8,none⟩=some (Value.pointer pu)/\tb<W.heap.size):=λW f=>L5 (f.heap K1 id)
      have e5:=e8.out.ext X1;have e6:Tbs (wr.alloc (Zu kd pu t)):=(fm.out.ext (HW.out.1.trans HR.out.2 (λj hj e=>by have:=aw.out;omega))).ext X1;have HC:=Hd (Ai1 e5 e6);clear e5 e6;have dr:=Hd (Ai1 K1 (Ai1 e4 ez));clear K1 X1 e4 ez e8 q0 q1 q2 q3 q4 q5 q6 q7 q8 lg co fo fj HR;have gr:=Hd ay;clear ay;generalize wr.alloc _=w3 at *;obtain⟨ak,bb⟩:∃ x,x=Y8 d us t:=⟨_,rfl⟩;obtain⟨ah,a7⟩:∃ x,x=O6 d us t:=⟨_,rfl⟩;obtain⟨Z,bn⟩:∃ x,x=Zo d us t Ue:=⟨_,rfl⟩;obtain⟨Y,bl⟩:∃ x,x=Zo d us t Uc:=⟨_,rfl⟩;obtain⟨V,bm⟩:∃ x,x=Zo d us t Ud:=⟨_,rfl⟩;obtain⟨xt,cm⟩:∃ x,x=Zo d us t Iw:=⟨_,rfl⟩;obtain⟨xf,cp⟩:∃ x,x=Zo d us t Pr:=⟨_,rfl⟩;obtain⟨ex,db⟩:∃ x,x=Px us t:=⟨_,rfl⟩;obtain⟨st,cr⟩:∃ x,x=Zcr t:=⟨_,rfl⟩;obtain⟨cn,dc⟩:∃ x,x=Yj t.cls:=⟨_,rfl⟩;have CF:Hid (∀ W,Zf w3 W->Calls Tryz.prog 70 #[.agg (Yn kd pu t).toArray] W λe w'=>∃ v,e=.returned v/\strs.R w' (λj=>W.heap.size<=j) ak [v]/\Zf W w'):=λW f=>by rw[bb];exact Zbs af.out (HC.out.1.ext f)
      have CP:Hid (∀ W,Zf w3 W->Calls Tryz.prog 71 #[.agg (Yn kd pu t).toArray] W λe w'=>∃ v,e=.returned v/\strs.R w' (λj=>W.heap.size<=j) ah [v]/\Zf W w'):=λW f=>by rw[a7];exact Zet af.out (HC.out.1.ext f)
      have Cb:Hid (∀ W,Zf w3 W->Calls Tryz.prog 73 #[.agg (Yn kd pu t).toArray] W λe w'=>e=.returned (Ys Z)/\Zf W w'):=λW f=>by rw[bn];exact Kq af.out (HC.out.1.ext f)
      have Cr:Hid (∀ W,Zf w3 W->Calls Tryz.prog 74 #[.agg (Yn kd pu t).toArray] W λe w'=>e=.returned (Ys Y)/\Zf W w'):=λW f=>by rw[bl];exact Ko af.out (HC.out.1.ext f)
      have Cp:Hid (∀ W,Zf w3 W->Calls Tryz.prog 75 #[.agg (Yn kd pu t).toArray] W λe w'=>e=.returned (Ys V)/\Zf W w'):=λW f=>by rw[bm];exact Kp af.out (HC.out.1.ext f)
      have Ct:Hid (∀ W,Zf w3 W->Calls Tryz.prog 76 #[.agg (Yn kd pu t).toArray] W λe w'=>e=.returned (Ys xt)/\Zf W w'):=λW f=>by rw[cm];exact Zdn af.out (HC.out.1.ext f)
      have Cf:Hid (∀ W,Zf w3 W->Calls Tryz.prog 77 #[.agg (Yn kd pu t).toArray] W λe w'=>e=.returned (Ys xf)/\Zf W w'):=λW f=>by rw[cp];exact Zbq af.out (HC.out.1.ext f)
      have Cs:Hid (∀ W,Zf w3 W->Calls Tryz.prog 78 #[.agg (Yn kd pu t).toArray] W λe w'=>e=.returned (.string st)/\Zf W w'):=λW f=>by rw[cr];exact Zlh t kd pu W af.out (HC.out.2.ext f)
      have Cc:Hid (∀ W,Calls Tryz.prog 79 #[.int .i64 (t.cls:Int)] W λe w'=>e=.returned (.string cn)/\Zf W w'):=λW=>by rw[dc];exact Cx t.cls af.out.cls W
      have CE:Hid (∀ W,Zf w3 W->Calls Tryz.prog 80 #[.agg (Yn kd pu t).toArray] W λe w'=>∃ v,e=.returned v/\Bc w' W.heap.size ex v/\Zf W w'):=λW f=>by rw[db];exact Zhe af.out (HC.out.1.ext f)
      have CD:Hid (∀ W,Zf w3 W->Calls Tryz.prog 81 #[.agg (Yn kd pu t).toArray] W λe w'=>(∃ v,e=.returned v/\Zd8 t (Z.getD ⟨#[]⟩) (Y.getD ⟨#[]⟩) (V.getD ⟨#[]⟩) v)/\Zf W w'):=λW f=>by rw[bn,bl,bm];exact Zkj t kd _ _ pu W af.out (HC.out.1.ext f)
      have fq:Hid (Kv d us t=⟨ak,ah,Z,Y,V,xt,xf,ex,st,cn,Z.getD ⟨#[]⟩,Y.getD ⟨#[]⟩,V.getD ⟨#[]⟩⟩):=by rw[bb,a7,bn,bl,bm,cm,cp,db,cr,dc];rfl
      clear bb a7 bn bl bm cm cp db cr dc;refine P1 ?_;refine Ye 36 37 #[false,false,false,false,false,false,false,false,false,false,false,false,false,false,false,false,false,false,false,false,false,false,false,false,false,false,false,false,false,false,false,false,false,false,false,false,false] (λW=>Zf w3 W/\W.cell? ⟨tb,0,none⟩=some (Value.int .i64 (t.index:Int))/\W.cell? ⟨tb,1,none⟩=some (Value.int .i64 t.id)/\W.cell? ⟨tb,2,none⟩=some (Value.int .i64 (t.cls:Int))/\W.cell? ⟨tb,3,none⟩=some (Value.int .i64 (t.pos:Int))/\W.cell? ⟨tb,4,none⟩=some (Value.int .i64 (t.start:Int))/\W.cell? ⟨tb,5,none⟩=some (Value.int .i64 (t.fin:Int))/\W.cell? ⟨tb,6,none⟩=some (Value.string t.surf)/\W.cell? ⟨tb,7,none⟩=some (Value.pointer (some ⟨kd,0,none⟩))/\W.cell? ⟨tb,8,none⟩=some (Value.pointer pu)/\tb<W.heap.size) mixed rfl rfl (⟨(Fl w3).drew,bw.out w3.drew ((Fl w3).drew)⟩) (λhS=>?_);refine WL.go [(0,31),(2,33),(4,35),(9,40),(14,45),(19,50),(24,55),(29,60),(31,62),(32,63)] ?_;iterate 10 (refine WL.tk (v:=?_) rfl rfl Kr (λ_ _ _ h=>nomatch h.1) (Or.inl ⟨Rf,?_⟩) (by assumption) ?_;rotate_left;(focus (intro w G;(try obtain⟨sf,b0,b1,b2,b3,b4,b5,b6,b7,b8,lb⟩:=G);go_simp;(try with_reducible rfl)));simp only[Act.put,Sa,Sb1,Sc])
      refine WZ.flowJ 1 36 [(1,32,[]),(3,34,[]),(5,36,[]),(6,37,[(5,36)]),(7,38,[(5,36)]),(8,39,[(6,37),(7,38)]),(10,41,[]),(11,42,[(10,41)]),(12,43,[(10,41)]),(13,44,[(11,42),(12,43)]),(15,46,[]),(16,47,[(15,46)]),(17,48,[(15,46)]),(18,49,[(16,47),(17,48)]),(20,51,[]),(21,52,[(20,51)]),(22,53,[(20,51)]),(23,54,[(21,52),(22,53)]),(25,56,[]),(26,57,[(25,56)]),(27,58,[(25,56)]),(28,59,[(26,57),(27,58)]),(30,61,[]),(33,64,[]),(34,65,[(1,32),(3,34),(8,39),(13,44),(18,49),(23,54),(28,59),(30,61),(33,64)]),(35,11,[])]
        [(1,λv _ lo hi W=>∃ A n c,v=.slice A n c/\w3.heap.size<=lo/\strs.R W (λj=>lo<=j/\j<hi) ak [v]),
         (3,λv _ lo hi W=>∃ A n c,v=.slice A n c/\w3.heap.size<=lo/\strs.R W (λj=>lo<=j/\j<hi) ah [v]),
         (5,λv _ _ _ _=>v=Ys Z),
         (6,λv _ _ _ _=>v=.string (Z.getD ⟨#[]⟩)),
         (7,λv _ _ _ _=>v=.bool Z.isSome),
         (8,λv _ _ _ _=>v=.agg #[.string (Z.getD ⟨#[]⟩),.bool Z.isSome]),
         (10,λv _ _ _ _=>v=Ys Y),
         (11,λv _ _ _ _=>v=.string (Y.getD ⟨#[]⟩)),
         (12,λv _ _ _ _=>v=.bool Y.isSome),
         (13,λv _ _ _ _=>v=.agg #[.string (Y.getD ⟨#[]⟩),.bool Y.isSome]),
         (15,λv _ _ _ _=>v=Ys V),
         (16,λv _ _ _ _=>v=.string (V.getD ⟨#[]⟩)),
         (17,λv _ _ _ _=>v=.bool V.isSome),
         (18,λv _ _ _ _=>v=.agg #[.string (V.getD ⟨#[]⟩),.bool V.isSome]),
         (20,λv _ _ _ _=>v=Ys xt),
         (21,λv _ _ _ _=>v=.string (xt.getD ⟨#[]⟩)),
         (22,λv _ _ _ _=>v=.bool xt.isSome),
         (23,λv _ _ _ _=>v=.agg #[.string (xt.getD ⟨#[]⟩),.bool xt.isSome]),
         (25,λv _ _ _ _=>v=Ys xf),
         (26,λv _ _ _ _=>v=.string (xf.getD ⟨#[]⟩)),
         (27,λv _ _ _ _=>v=.bool xf.isSome),
         (28,λv _ _ _ _=>v=.agg #[.string (xf.getD ⟨#[]⟩),.bool xf.isSome]),
         (30,λv _ _ _ _=>v=.string st),
         (33,λv _ _ _ _=>v=.string cn),
         (34,λv us _ _ _=>∃ AF nF cF AP nP cP rest,us=.slice AF nF cF :: .slice AP nP cP::rest/\v=.agg #[.slice AF nF cF,.slice AP nP cP,.string (Z.getD ⟨#[]⟩),.bool Z.isSome,.string (Y.getD ⟨#[]⟩),.bool Y.isSome,.string (V.getD ⟨#[]⟩),.bool V.isSome,.string (xt.getD ⟨#[]⟩),.bool xt.isSome,.string (xf.getD ⟨#[]⟩),.bool xf.isSome,.bool false,.slice none 0 0,.slice none 0 0,.string st,.string cn,.string ⟨#[]⟩,.string ⟨#[]⟩,.string ⟨#[]⟩]),
         (35,λv _ lo hi W=>∃ M,v=.pointer (some ⟨M,0,none⟩)/\w3.heap.size<=M/\lo<=M/\M<hi/\W.heap[M]?=some (.cells #[.slice none 0 0,.slice none 0 0,.string ⟨#[]⟩,.bool false,.string ⟨#[]⟩,.bool false,.string ⟨#[]⟩,.bool false,.string ⟨#[]⟩,.bool false,.string ⟨#[]⟩,.bool false,.bool false,.slice none 0 0,.slice none 0 0,.string ⟨#[]⟩,.string ⟨#[]⟩,.string ⟨#[]⟩,.string ⟨#[]⟩,.string ⟨#[]⟩] Te (0,0)))]
        Kr rfl (λW W' h f=>⟨Z5 h.1 f,bw.out W' (Z5 h.1 f)⟩) ?_ (by assumption) ?_ (λvals lo hi W hx G hv cw=>?_)
      · simp only[List.forall_mem_cons]
        exact⟨λv _ lo hi W W' f ⟨A,n,c,e,l,h⟩=>⟨A,n,c,e,l,strs.ext h f⟩,λv _ lo hi W W' f ⟨A,n,c,e,l,h⟩=>⟨A,n,c,e,l,strs.ext h f⟩,λ_ _ _ _ _ _ _ h=>h,λ_ _ _ _ _ _ _ h=>h,λ_ _ _ _ _ _ _ h=>h,λ_ _ _ _ _ _ _ h=>h,λ_ _ _ _ _ _ _ h=>h,λ_ _ _ _ _ _ _ h=>h,λ_ _ _ _ _ _ _ h=>h,λ_ _ _ _ _ _ _ h=>h,λ_ _ _ _ _ _ _ h=>h,λ_ _ _ _ _ _ _ h=>h,λ_ _ _ _ _ _ _ h=>h,λ_ _ _ _ _ _ _ h=>h,λ_ _ _ _ _ _ _ h=>h,λ_ _ _ _ _ _ _ h=>h,λ_ _ _ _ _ _ _ h=>h,λ_ _ _ _ _ _ _ h=>h,λ_ _ _ _ _ _ _ h=>h,λ_ _ _ _ _ _ _ h=>h,λ_ _ _ _ _ _ _ h=>h,λ_ _ _ _ _ _ _ h=>h,λ_ _ _ _ _ _ _ h=>h,λ_ _ _ _ _ _ _ h=>h,λ_ _ _ _ _ _ _ h=>h,λv _ lo hi W W' f ⟨M,e,h1,h2,h3,h4⟩=>⟨M,e,h1,h2,h3,f.heap h4 id⟩,λ_ h=>nomatch h⟩
      · simp only[List.forall_mem_cons]
        refine⟨⟨_,rfl,λvals W G J Q' K I=>?_⟩,⟨_,rfl,λvals W G J Q' K I=>?_⟩,⟨_,rfl,λvals W G J Q' K I=>?_⟩,⟨_,rfl,λvals W G J Q' K I=>?_⟩,⟨_,rfl,λvals W G J Q' K I=>?_⟩,⟨_,rfl,λvals W G J Q' K I=>?_⟩,⟨_,rfl,λvals W G J Q' K I=>?_⟩,⟨_,rfl,λvals W G J Q' K I=>?_⟩,⟨_,rfl,λvals W G J Q' K I=>?_⟩,⟨_,rfl,λvals W G J Q' K I=>?_⟩,⟨_,rfl,λvals W G J Q' K I=>?_⟩,⟨_,rfl,λvals W G J Q' K I=>?_⟩,⟨_,rfl,λvals W G J Q' K I=>?_⟩,⟨_,rfl,λvals W G J Q' K I=>?_⟩,⟨_,rfl,λvals W G J Q' K I=>?_⟩,⟨_,rfl,λvals W G J Q' K I=>?_⟩,⟨_,rfl,λvals W G J Q' K I=>?_⟩,⟨_,rfl,λvals W G J Q' K I=>?_⟩,⟨_,rfl,λvals W G J Q' K I=>?_⟩,⟨_,rfl,λvals W G J Q' K I=>?_⟩,⟨_,rfl,λvals W G J Q' K I=>?_⟩,⟨_,rfl,λvals W G J Q' K I=>?_⟩,⟨_,rfl,λvals W G J Q' K I=>?_⟩,⟨_,rfl,λvals W G J Q' K I=>?_⟩,⟨_,rfl,λvals W G J Q' K I=>?_⟩,⟨_,rfl,λvals W G J Q' K I=>?_⟩,λ_ h=>nomatch h⟩
        ·
          have C:=Hd (CF.out W G.1);have ad:=Hd G.1;clear J G;simp only[Yg];go_simp;go_wp2_with (go_at_call 70;refine C.out.mono ?_;rintro e w5 ⟨v,rfl,hr,hx⟩)
          obtain⟨A,c,rfl⟩:=Y2 hr;exact I.out _ _ w5 rfl hx ⟨_,_,_,rfl,ad.out.size,strs.mono (λ_ hk h=>⟨h,hk⟩) hr⟩
        ·
          have C:=Hd (CP.out W G.1);have ad:=Hd G.1;clear J G;simp only[Yg];go_simp;go_wp2_with (go_at_call 71;refine C.out.mono ?_;rintro e w5 ⟨v,rfl,hr,hx⟩)
          obtain⟨A,c,rfl⟩:=Y2 hr;exact I.out _ _ w5 rfl hx ⟨_,_,_,rfl,ad.out.size,strs.mono (λ_ hk h=>⟨h,hk⟩) hr⟩
        ·
          have C:=Hd (Cb.out W G.1);have ad:=Hd G.1;clear J G;simp only[Yg];go_simp;go_wp2_with (go_at_call 73;refine C.out.mono ?_;rintro e w5 ⟨rfl,hx⟩)
          exact I.out _ _ w5 rfl hx rfl
        ·
          have h5:vals 5=Ys Z:=by obtain⟨_,_,_,h⟩:=J (5,36) (by simp);exact h
          clear J G;simp only[Yg,h5]at I⊢;clear h5;go_simp;exact I.out _ _ W rfl (Fl _) rfl
        ·
          have h5:vals 5=Ys Z:=by obtain⟨_,_,_,h⟩:=J (5,36) (by simp);exact h
          clear J G;simp only[Yg,h5]at I⊢;clear h5;go_simp;exact I.out _ _ W rfl (Fl _) rfl
        ·
          have h6:vals 6=.string (Z.getD ⟨#[]⟩):=by obtain⟨_,_,_,h⟩:=J (6,37) (by simp);exact h
          have h7:vals 7=.bool Z.isSome:=by obtain⟨_,_,_,h⟩:=J (7,38) (by simp);exact h
          clear J G;simp only[Yg,h6,h7]at I⊢;clear h6 h7;go_simp;go_wp2_with (go_at_call 72;refine (Sn _ _ W).mono ?_;rintro e w5 ⟨rfl,hx⟩)
          exact I.out _ _ w5 rfl hx rfl
        ·
          have C:=Hd (Cr.out W G.1);have ad:=Hd G.1;clear J G;simp only[Yg];go_simp;go_wp2_with (go_at_call 74;refine C.out.mono ?_;rintro e w5 ⟨rfl,hx⟩)
          exact I.out _ _ w5 rfl hx rfl
        ·
          have ac:vals 10=Ys Y:=by obtain⟨_,_,_,h⟩:=J (10,41) (by simp);exact h
          clear J G;simp only[Yg,ac]at I⊢;clear ac;go_simp;exact I.out _ _ W rfl (Fl _) rfl
        ·
          have ac:vals 10=Ys Y:=by obtain⟨_,_,_,h⟩:=J (10,41) (by simp);exact h
          clear J G;simp only[Yg,ac]at I⊢;clear ac;go_simp;exact I.out _ _ W rfl (Fl _) rfl
        ·
          have ew:vals 11=.string (Y.getD ⟨#[]⟩):=by obtain⟨_,_,_,h⟩:=J (11,42) (by simp);exact h
          have bi:vals 12=.bool Y.isSome:=by obtain⟨_,_,_,h⟩:=J (12,43) (by simp);exact h
          clear J G;simp only[Yg,ew,bi]at I⊢;clear ew bi;go_simp;go_wp2_with (go_at_call 72;refine (Sn _ _ W).mono ?_;rintro e w5 ⟨rfl,hx⟩)
          exact I.out _ _ w5 rfl hx rfl
        ·
          have C:=Hd (Cp.out W G.1);have ad:=Hd G.1;clear J G;simp only[Yg];go_simp;go_wp2_with (go_at_call 75;refine C.out.mono ?_;rintro e w5 ⟨rfl,hx⟩)
          exact I.out _ _ w5 rfl hx rfl
        ·
          have bh:vals 15=Ys V:=by obtain⟨_,_,_,h⟩:=J (15,46) (by simp);exact h
          clear J G;simp only[Yg,bh]at I⊢;clear bh;go_simp;exact I.out _ _ W rfl (Fl _) rfl
        ·
          have bh:vals 15=Ys V:=by obtain⟨_,_,_,h⟩:=J (15,46) (by simp);exact h
          clear J G;simp only[Yg,bh]at I⊢;clear bh;go_simp;exact I.out _ _ W rfl (Fl _) rfl
        ·
          have eu:vals 16=.string (V.getD ⟨#[]⟩):=by obtain⟨_,_,_,h⟩:=J (16,47) (by simp);exact h
          have et:vals 17=.bool V.isSome:=by obtain⟨_,_,_,h⟩:=J (17,48) (by simp);exact h
          clear J G;simp only[Yg,eu,et]at I⊢;clear eu et;go_simp;go_wp2_with (go_at_call 72;refine (Sn _ _ W).mono ?_;rintro e w5 ⟨rfl,hx⟩)
          exact I.out _ _ w5 rfl hx rfl
        ·
          have C:=Hd (Ct.out W G.1);have ad:=Hd G.1;clear J G;simp only[Yg];go_simp;go_wp2_with (go_at_call 76;refine C.out.mono ?_;rintro e w5 ⟨rfl,hx⟩)
          exact I.out _ _ w5 rfl hx rfl
        ·
          have bg:vals 20=Ys xt:=by obtain⟨_,_,_,h⟩:=J (20,51) (by simp);exact h
          clear J G;simp only[Yg,bg]at I⊢;clear bg;go_simp;exact I.out _ _ W rfl (Fl _) rfl
        ·
          have bg:vals 20=Ys xt:=by obtain⟨_,_,_,h⟩:=J (20,51) (by simp);exact h
          clear J G;simp only[Yg,bg]at I⊢;clear bg;go_simp;exact I.out _ _ W rfl (Fl _) rfl
        ·
          have er:vals 21=.string (xt.getD ⟨#[]⟩):=by obtain⟨_,_,_,h⟩:=J (21,52) (by simp);exact h
          have ep:vals 22=.bool xt.isSome:=by obtain⟨_,_,_,h⟩:=J (22,53) (by simp);exact h
          clear J G;simp only[Yg,er,ep]at I⊢;clear er ep;go_simp;go_wp2_with (go_at_call 72;refine (Sn _ _ W).mono ?_;rintro e w5 ⟨rfl,hx⟩)
          exact I.out _ _ w5 rfl hx rfl
        ·
          have C:=Hd (Cf.out W G.1);have ad:=Hd G.1;clear J G;simp only[Yg];go_simp;go_wp2_with (go_at_call 77;refine C.out.mono ?_;rintro e w5 ⟨rfl,hx⟩)
          exact I.out _ _ w5 rfl hx rfl
        ·
          have bf:vals 25=Ys xf:=by obtain⟨_,_,_,h⟩:=J (25,56) (by simp);exact h
          clear J G;simp only[Yg,bf]at I⊢;clear bf;go_simp;exact I.out _ _ W rfl (Fl _) rfl
        ·
          have bf:vals 25=Ys xf:=by obtain⟨_,_,_,h⟩:=J (25,56) (by simp);exact h
          clear J G;simp only[Yg,bf]at I⊢;clear bf;go_simp;exact I.out _ _ W rfl (Fl _) rfl
        ·
          have en:vals 26=.string (xf.getD ⟨#[]⟩):=by obtain⟨_,_,_,h⟩:=J (26,57) (by simp);exact h
          have em:vals 27=.bool xf.isSome:=by obtain⟨_,_,_,h⟩:=J (27,58) (by simp);exact h
          clear J G;simp only[Yg,en,em]at I⊢;clear en em;go_simp;go_wp2_with (go_at_call 72;refine (Sn _ _ W).mono ?_;rintro e w5 ⟨rfl,hx⟩)
          exact I.out _ _ w5 rfl hx rfl
        ·
          have C:=Hd (Cs.out W G.1);have ad:=Hd G.1;clear J G;simp only[Yg];go_simp;go_wp2_with (go_at_call 78;refine C.out.mono ?_;rintro e w5 ⟨rfl,hx⟩)
          exact I.out _ _ w5 rfl hx rfl
        ·
          have C:=Hd (Cc.out W);have ad:=Hd G.1;clear J G;simp only[Yg];go_simp;go_wp2_with (go_at_call 79;refine C.out.mono ?_;rintro e w5 ⟨rfl,hx⟩)
          exact I.out _ _ w5 rfl hx rfl
        ·
          obtain⟨_,_,_,AF,nF,cF,h1,_⟩:∃ (us:List Value) (lo hi:Nat),∃ A n c,vals 1=.slice A n c/\w3.heap.size<=lo/\strs.R W (λj=>lo<=j/\j<hi) ak [vals 1]:=J (1,32) (by simp);obtain⟨_,_,_,AP,nP,cP,h3,_⟩:∃ (us:List Value) (lo hi:Nat),∃ A n c,vals 3=.slice A n c/\w3.heap.size<=lo/\strs.R W (λj=>lo<=j/\j<hi) ah [vals 3]:=J (3,34) (by simp);have h8:vals 8=.agg #[.string (Z.getD ⟨#[]⟩),.bool Z.isSome]:=by obtain⟨_,_,_,h⟩:=J (8,39) (by simp);exact h
          have ev:vals 13=.agg #[.string (Y.getD ⟨#[]⟩),.bool Y.isSome]:=by obtain⟨_,_,_,h⟩:=J (13,44) (by simp);exact h
          have es:vals 18=.agg #[.string (V.getD ⟨#[]⟩),.bool V.isSome]:=by obtain⟨_,_,_,h⟩:=J (18,49) (by simp);exact h
          have eo:vals 23=.agg #[.string (xt.getD ⟨#[]⟩),.bool xt.isSome]:=by obtain⟨_,_,_,h⟩:=J (23,54) (by simp);exact h
          have el:vals 28=.agg #[.string (xf.getD ⟨#[]⟩),.bool xf.isSome]:=by obtain⟨_,_,_,h⟩:=J (28,59) (by simp);exact h
          have ek:vals 30=.string st:=by obtain⟨_,_,_,h⟩:=J (30,61) (by simp);exact h
          have ej:vals 33=.string cn:=by obtain⟨_,_,_,h⟩:=J (33,64) (by simp);exact h
          clear J G;simp only[Yg,Act.put,Sa,Sb1,Sc,h1,h3,h8,ev,es,eo,el,ek,ej]at I⊢;have fb:=Hd (Ai1 h1 h3);clear h1 h3 h8 ev es eo el ek ej;go_simp;exact I.out (.agg #[.slice AF nF cF,.slice AP nP cP,.string (Z.getD ⟨#[]⟩),.bool Z.isSome,.string (Y.getD ⟨#[]⟩),.bool Y.isSome,.string (V.getD ⟨#[]⟩),.bool V.isSome,.string (xt.getD ⟨#[]⟩),.bool xt.isSome,.string (xf.getD ⟨#[]⟩),.bool xf.isSome,.bool false,.slice none 0 0,.slice none 0 0,.string st,.string cn,.string ⟨#[]⟩,.string ⟨#[]⟩,.string ⟨#[]⟩]) _ W rfl (Fl _) (show ∃ BF mF kF BP mP kP rest,[vals 1,vals 3,vals 8,vals 13,vals 18,vals 23,vals 28,vals 30,vals 33]=Value.slice BF mF kF :: .slice BP mP kP::rest/\Value.agg #[.slice AF nF cF,.slice AP nP cP,.string (Z.getD ⟨#[]⟩),.bool Z.isSome,.string (Y.getD ⟨#[]⟩),.bool Y.isSome,.string (V.getD ⟨#[]⟩),.bool V.isSome,.string (xt.getD ⟨#[]⟩),.bool xt.isSome,.string (xf.getD ⟨#[]⟩),.bool xf.isSome,.bool false,.slice none 0 0,.slice none 0 0,.string st,.string cn,.string ⟨#[]⟩,.string ⟨#[]⟩,.string ⟨#[]⟩]=.agg #[.slice BF mF kF,.slice BP mP kP,.string (Z.getD ⟨#[]⟩),.bool Z.isSome,.string (Y.getD ⟨#[]⟩),.bool Y.isSome,.string (V.getD ⟨#[]⟩),.bool V.isSome,.string (xt.getD ⟨#[]⟩),.bool xt.isSome,.string (xf.getD ⟨#[]⟩),.bool xf.isSome,.bool false,.slice none 0 0,.slice none 0 0,.string st,.string cn,.string ⟨#[]⟩,.string ⟨#[]⟩,.string ⟨#[]⟩] from⟨AF,nF,cF,AP,nP,cP,_,by rw[fb.out.1,fb.out.2],rfl⟩)
        ·
          have ad:=Hd G.1;clear J G;simp only[Yg];go_simp;exact I.out _ _ _ rfl ((Fl _).alloc _) ⟨_,rfl,ad.out.size,Nl _,by rw[Za];exact Nat.lt_succ_self _,alloc_at _ _⟩
      · obtain⟨AF,nF,cF,AP,nP,cP,rest,bq,ei⟩:∃ AF nF cF AP nP cP rest,[vals 1,vals 3,vals 8,vals 13,vals 18,vals 23,vals 28,vals 30,vals 33]=Value.slice AF nF cF :: .slice AP nP cP::rest/\vals 34=.agg #[.slice AF nF cF,.slice AP nP cP,.string (Z.getD ⟨#[]⟩),.bool Z.isSome,.string (Y.getD ⟨#[]⟩),.bool Y.isSome,.string (V.getD ⟨#[]⟩),.bool V.isSome,.string (xt.getD ⟨#[]⟩),.bool xt.isSome,.string (xf.getD ⟨#[]⟩),.bool xf.isSome,.bool false,.slice none 0 0,.slice none 0 0,.string st,.string cn,.string ⟨#[]⟩,.string ⟨#[]⟩,.string ⟨#[]⟩]:=hv (34,65,[(1,32),(3,34),(8,39),(13,44),(18,49),(23,54),(28,59),(30,61),(33,64)]) (by simp)
        obtain⟨e1,e3⟩:vals 1=.slice AF nF cF/\vals 3=.slice AP nP cP:=by simp only[List.cons.injEq]at bq;exact⟨bq.1,bq.2.1⟩
        obtain⟨_,_,_,-,ff,r1⟩:∃ A n c,vals 1=.slice A n c/\w3.heap.size<=lo 1/\strs.R W (λj=>lo 1<=j/\j<hi 1) ak [vals 1]:=hv (1,32,[]) (by simp);obtain⟨_,_,_,-,fe,r3⟩:∃ A n c,vals 3=.slice A n c/\w3.heap.size<=lo 3/\strs.R W (λj=>lo 3<=j/\j<hi 3) ah [vals 3]:=hv (3,34,[]) (by simp);obtain⟨M,eh,d6,a8,fi,d7⟩:∃ M,vals 35=.pointer (some ⟨M,0,none⟩)/\w3.heap.size<=M/\lo 35<=M/\M<hi 35/\W.heap[M]?=some (.cells #[.slice none 0 0,.slice none 0 0,.string ⟨#[]⟩,.bool false,.string ⟨#[]⟩,.bool false,.string ⟨#[]⟩,.bool false,.string ⟨#[]⟩,.bool false,.string ⟨#[]⟩,.bool false,.bool false,.slice none 0 0,.slice none 0 0,.string ⟨#[]⟩,.string ⟨#[]⟩,.string ⟨#[]⟩,.string ⟨#[]⟩,.string ⟨#[]⟩] Te (0,0)):=hv (35,11,[]) (by simp);have d1:hi 35<=lo 1\/hi 1<=lo 35:=cw (35,11,[]) (by simp) (1,32,[]) (by simp) (by decide);have d3:hi 35<=lo 3\/hi 3<=lo 35:=cw (35,11,[]) (by simp) (3,34,[]) (by simp) (by decide);rw[e1]at r1;rw[e3]at r3;replace r1:strs.R W (λj=>w3.heap.size<=j/\j≠M) ak [.slice AF nF cF]:=strs.mono (λk _ h=>⟨Om,Om⟩) r1;replace r3:strs.R W (λj=>w3.heap.size<=j/\j≠M) ah [.slice AP nP cP]:=strs.mono (λk _ h=>⟨Om,Om⟩) r3;simp only[Yg,List.map_cons,List.map_nil,Act.put,Sa,Sb1,Sc,ei,eh];clear hv cw ei eh bq e1 e3 d1 d3 ff fe a8 fi rest;generalize vals 1=x1 at *;generalize vals 3=x3 at *;generalize vals 5=x5 at *;generalize vals 6=x6 at *;generalize vals 7=x7 at *;generalize vals 8=x8 at *;generalize vals 10=gh at *;generalize vals 11=gg at *;generalize vals 12=gf at *;generalize vals 13=gc at *;generalize vals 15=gb at *;generalize vals 16=ga at *;generalize vals 17=f5 at *;generalize vals 18=f4 at *;generalize vals 20=f3 at *;generalize vals 21=f2 at *;generalize vals 22=f1 at *;generalize vals 23=f0 at *;generalize vals 25=fz at *;generalize vals 26=fy at *;generalize vals 27=fx at *;generalize vals 28=fw at *;generalize vals 30=fv at *;generalize vals 33=fu at *;clear vals lo hi;have dp:=Hd (Ai1 r1 r3);have bz:=Hd (Ai1 d6 d7);have ap:=Hd G.1;clear r1 r3 hx;clear d6 d7;refine WZ.last rfl Kr Kr (λK I=>?_);refine Zaa Rf Rf _ _ _ Rf M #[.slice AF nF cF,.slice AP nP cP,.string (Z.getD ⟨#[]⟩),.bool Z.isSome,.string (Y.getD ⟨#[]⟩),.bool Y.isSome,.string (V.getD ⟨#[]⟩),.bool V.isSome,.string (xt.getD ⟨#[]⟩),.bool xt.isSome,.string (xf.getD ⟨#[]⟩),.bool xf.isSome,.bool false,.slice none 0 0,.slice none 0 0,.string st,.string cn,.string ⟨#[]⟩,.string ⟨#[]⟩,.string ⟨#[]⟩] _ _ bz.out.2 Rf Rf Rf Kr (all_oneCell_toArray (Zgj _ _ _ _ _ _ _ _ _ _ _ _ _ _ _ _ _ _ _ _ _ _ _ _ rfl rfl)) ?_;intro w4 d9 bt;refine I.out _ _ ?_;clear I K;refine⟨rfl,?_⟩;have X4:Zf w3 w4:=ap.out.trans bt (λk hk q=>by have:=bz.out.1;omega);have R4:strs.R w4 (λj=>w3.heap.size<=j/\j≠M) ak [.slice AF nF cF]/\strs.R w4 (λj=>w3.heap.size<=j/\j≠M) ah [.slice AP nP cP]:=⟨strs.keep dp.out.1 bt (λ_ _ q e=>q.2 e),strs.keep dp.out.2 bt (λ_ _ q e=>q.2 e)⟩;have H4:=Hd (Ai1 X4 (Ai1 d9 (Ai1 bz.out.1 R4)));obtain⟨b0,b1,b2,b3,b4,b5,b6,b7,b8,lb⟩:=bw.out w4 X4;clear X4 R4 d9 bt ap bz dp hS G;go_step;go_step;refine wp_seq_k λK I=>?_
        go_cut [12] from 66 to 80 (λv12 wr=>∃ vp,v12=.pointer vp/\Hid (∃ At nt ct Ay ny cy,wr.heap[M]?=some (.cells #[.slice AF nF cF,.slice AP nP cP,.string (Z.getD ⟨#[]⟩),.bool Z.isSome,.string (Y.getD ⟨#[]⟩),.bool Y.isSome,.string (V.getD ⟨#[]⟩),.bool V.isSome,.string (xt.getD ⟨#[]⟩),.bool xt.isSome,.string (xf.getD ⟨#[]⟩),.bool xf.isSome,.bool ex.isSome,.slice At nt ct,.slice Ay ny cy,.string st,.string cn,.string ⟨#[]⟩,.string ⟨#[]⟩,.string ⟨#[]⟩] Te (0,0))/\strs.R wr (λj=>w4.heap.size<=j) ((ex.map (·.1)).getD []) [.slice At nt ct]/\strs.R wr (λj=>w4.heap.size<=j) ((ex.map (·.2)).getD []) [.slice Ay ny cy]/\Fr (λk=>k=M) w4 wr))
        case first =>
          go_upto_region 10 with (first
            | (go_at_call 80;refine (CE.out _ H4.out.1).mono ?_;rintro e w5 ⟨ve,rfl,hE,d5⟩;have HE:=Hd (Ai1 hE d5);clear hE d5)
            | fail)
          clear b0 b1 b2 b3 b4 b5 b6 b7 b8 lb;have c0:=HE.out.2.heap H4.out.2.1 id;have dt:Fr (λk=>k=M) w4 w5:=HE.out.2.mono (λ_ _ e=>e.elim);rcases ex with _|⟨ta,ty⟩
          · have hE:ve=.pointer none:=HE.out.1
            subst hE;go_wp2_with fail
            go_meet
            case rel=>exact⟨_,rfl,_,_,_,_,_,_,c0,Nw,Nw,dt⟩
          · obtain⟨ge,v1,v2,rfl,e1,e2,gp,r1,r2⟩:=HE.out.1
            obtain⟨Aa,ca,rfl⟩:=Y2 r1;obtain⟨Ab,cb,rfl⟩:=Y2 r2;have a8:M<w4.heap.size:=(Gs1.1 H4.out.2.1).1;have ai:¬ ge=M:=Om;have dq:=Hd (Ai1 r1 (Ai1 r2 dt));clear r1 r2 dt;go_upto_region 11 with fail
            obtain⟨TG,aa⟩:∃ TG:List Value,TG=[.slice AF nF cF,.slice AP nP cP,.string (Z.getD ⟨#[]⟩),.bool Z.isSome,.string (Y.getD ⟨#[]⟩),.bool Y.isSome,.string (V.getD ⟨#[]⟩),.bool V.isSome,.string (xt.getD ⟨#[]⟩),.bool xt.isSome,.string (xf.getD ⟨#[]⟩),.bool xf.isSome,.bool true,.slice Aa ta.length ca,.slice Ab ty.length cb,.string st,.string cn,.string ⟨#[]⟩,.string ⟨#[]⟩,.string ⟨#[]⟩]:=⟨_,rfl⟩;have t12:TG[12]?=some (.bool true):=by rw[aa];rfl
            have d0:TG[13]?=some (.slice Aa ta.length ca):=by rw[aa];rfl
            have dz:TG[14]?=some (.slice Ab ty.length cb):=by rw[aa];rfl
            have ao:TG.length=20:=by rw[aa];rfl
            have dn:Hid (Gf M Te TG [12,13,14] w5.drew/\w5.drew.cell? ⟨ge,0,none⟩=some (.slice Aa ta.length ca)/\w5.drew.cell? ⟨ge,1,none⟩=some (.slice Ab ty.length cb)/\ge<w5.drew.heap.size):=⟨⟨_,c0,by rw[aa];rfl,λj hj=>by
              rw[aa];simp only[List.mem_cons,List.mem_nil_iff,or_false,not_or]at hj
              rcases j with _|_|_|_|_|_|_|_|_|_|_|_|_|_|_|_|_|_|_|_|j<;>first|rfl|omega⟩,(Fe w5).drew.cell e1 id,(Fe w5).drew.cell e2 id,lt_of_cell e1⟩
            have bx:Hid (∀ W W',Fr (λk=>k=M) W W'->(W.cell? ⟨ge,0,none⟩=some (.slice Aa ta.length ca)/\W.cell? ⟨ge,1,none⟩=some (.slice Ab ty.length cb)/\ge<W.heap.size)->W'.cell? ⟨ge,0,none⟩=some (.slice Aa ta.length ca)/\W'.cell? ⟨ge,1,none⟩=some (.slice Ab ty.length cb)/\ge<W'.heap.size):=λW W' f h=>⟨f.cell h.1 ai,f.cell h.2.1 ai,Nat.lt_of_lt_of_le h.2.2 f.size⟩
            have dm:=Hd aa;clear aa c0 e1 e2;refine P1 ?_;refine Ye 13 14 #[false,false,false,false,false,false,false,false,false,false,false,false,false,false] (λW=>Gf M Te TG [12,13,14] W/\W.cell? ⟨ge,0,none⟩=some (.slice Aa ta.length ca)/\W.cell? ⟨ge,1,none⟩=some (.slice Ab ty.length cb)/\ge<W.heap.size) mixed rfl rfl (dn.out) (λhS=>?_)
            refine WZ.flowO (E:=T3 M Te TG) T3.refl (λ_ _ _=>T3.trans) 1 13 [(0,some 70,[]),(1,some 71,[(0,some 70)]),(2,some 72,[(1,some 71)]),(3,some 73,[(2,some 72)]),(4,some 74,[]),(5,some 75,[(4,some 74)]),(6,some 76,[(5,some 75)]),(7,some 77,[(6,some 76)]),(8,some 78,[]),(9,none,[(8,some 78)]),(10,some 79,[]),(11,none,[(10,some 79),(3,some 73)]),(12,some 80,[])]
              [(0,λv _=>v=.pointer (some ⟨ge,0,none⟩)),(1,λv _=>v=.pointer (some ⟨ge,0,none⟩)),(2,λv _=>v=.pointer (some ⟨ge,0,none⟩)),(3,λv _=>v=.slice Aa ta.length ca),(4,λv _=>v=.pointer (some ⟨ge,0,none⟩)),(5,λv _=>v=.pointer (some ⟨ge,0,none⟩)),(6,λv _=>v=.pointer (some ⟨ge,1,none⟩)),(7,λv _=>v=.slice Ab ty.length cb),(8,λv _=>v=.pointer (some ⟨M,12,none⟩)),(9,λ_ W=>Dn M Te TG 12 W),(10,λv _=>v=.pointer (some ⟨M,13,none⟩)),(11,λ_ W=>Dn M Te TG 13 W),(12,λv _=>v=.pointer (some ⟨M,14,none⟩))]
              Kr rfl (λW W' h e=>⟨h.1.keep e,bx.out W W' e.1 h.2⟩) ?_ (by assumption) ?_ (λvals W hx G hv=>?_)
            · simp only[List.forall_mem_cons]
              exact⟨λv W W' e h=>h,λv W W' e h=>h,λv W W' e h=>h,λv W W' e h=>h,λv W W' e h=>h,λv W W' e h=>h,λv W W' e h=>h,λv W W' e h=>h,λv W W' e h=>h,λv W W' e h=>Dn.keep h e,λv W W' e h=>h,λv W W' e h=>Dn.keep h e,λv W W' e h=>h,λ_ h=>nomatch h⟩
            · simp only[List.forall_mem_cons]
              refine⟨⟨_,rfl,λvals W G J Q' K I=>?_⟩,⟨_,rfl,λvals W G J Q' K I=>?_⟩,⟨_,rfl,λvals W G J Q' K I=>?_⟩,⟨_,rfl,λvals W G J Q' K I=>?_⟩,⟨_,rfl,λvals W G J Q' K I=>?_⟩,⟨_,rfl,λvals W G J Q' K I=>?_⟩,⟨_,rfl,λvals W G J Q' K I=>?_⟩,⟨_,rfl,λvals W G J Q' K I=>?_⟩,⟨_,rfl,λvals W G J Q' K I=>?_⟩,⟨_,rfl,λvals W G J Q' K I=>?_⟩,⟨_,rfl,λvals W G J Q' K I=>?_⟩,⟨_,rfl,λvals W G J Q' K I=>?_⟩,⟨_,rfl,λvals W G J Q' K I=>?_⟩,λ_ h=>nomatch h⟩
              · obtain⟨L,e0,e1,le⟩:=G
                clear J;simp only[Vk]at I⊢;clear L;go_simp;exact I.out _ _ W rfl (T3.refl W) rfl
              · obtain⟨L,e0,e1,le⟩:=G
                have h0:vals 0=.pointer (some ⟨ge,0,none⟩):=J (0,some 70) (by simp);clear J;simp only[Vk,h0]at I⊢;clear h0;clear L;go_simp;exact I.out _ _ W rfl (T3.refl W) rfl
              · obtain⟨L,e0,e1,le⟩:=G
                have h1:vals 1=.pointer (some ⟨ge,0,none⟩):=J (1,some 71) (by simp);clear J;simp only[Vk,h1]at I⊢;clear h1;clear L;go_simp;exact I.out _ _ W rfl (T3.refl W) rfl
              · obtain⟨L,e0,e1,le⟩:=G
                have h2:vals 2=.pointer (some ⟨ge,0,none⟩):=J (2,some 72) (by simp);clear J;simp only[Vk,h2]at I⊢;clear h2;clear L;go_simp;exact I.out _ _ W rfl (T3.refl W) rfl
              · obtain⟨L,e0,e1,le⟩:=G
                clear J;simp only[Vk]at I⊢;clear L;go_simp;exact I.out _ _ W rfl (T3.refl W) rfl
              · obtain⟨L,e0,e1,le⟩:=G
                have h4:vals 4=.pointer (some ⟨ge,0,none⟩):=J (4,some 74) (by simp);clear J;simp only[Vk,h4]at I⊢;clear h4;clear L;go_simp;exact I.out _ _ W rfl (T3.refl W) rfl
              · obtain⟨L,e0,e1,le⟩:=G
                have h5:vals 5=.pointer (some ⟨ge,0,none⟩):=J (5,some 75) (by simp);clear J;simp only[Vk,h5]at I⊢;clear h5;clear L;go_simp;exact I.out _ _ W rfl (T3.refl W) rfl
              · obtain⟨L,e0,e1,le⟩:=G
                have h6:vals 6=.pointer (some ⟨ge,1,none⟩):=J (6,some 76) (by simp);clear J;simp only[Vk,h6]at I⊢;clear h6;clear L;go_simp;exact I.out _ _ W rfl (T3.refl W) rfl
              · obtain⟨L,e0,e1,le⟩:=G
                clear J;simp only[Vk]at I⊢;clear L;go_simp;exact I.out _ _ W rfl (T3.refl W) rfl
              · obtain⟨L,e0,e1,le⟩:=G
                have h8:vals 8=.pointer (some ⟨M,12,none⟩):=J (8,some 78) (by simp);clear J;simp only[Vk,h8]at I⊢;clear h8;obtain⟨⟨xz,z⟩,pf,lg⟩:=L.cell 12 (by rw[ao];decide);have aq:=Hd L;clear L;go_simp;exact I.out undef _ _ rfl (T3.set 12 _ t12) (Gf.set aq.out 12 _ t12)
              · obtain⟨L,e0,e1,le⟩:=G
                clear J;simp only[Vk]at I⊢;clear L;go_simp;exact I.out _ _ W rfl (T3.refl W) rfl
              · obtain⟨L,e0,e1,le⟩:=G
                have ac:vals 10=.pointer (some ⟨M,13,none⟩):=J (10,some 79) (by simp);have h3:vals 3=.slice Aa ta.length ca:=J (3,some 73) (by simp);clear J;simp only[Vk,ac,h3]at I⊢;clear ac h3;obtain⟨⟨xz,z⟩,pf,lg⟩:=L.cell 13 (by rw[ao];decide);have aq:=Hd L;clear L;go_simp;exact I.out undef _ _ rfl (T3.set 13 _ d0) (Gf.set aq.out 13 _ d0)
              · obtain⟨L,e0,e1,le⟩:=G
                clear J;simp only[Vk]at I⊢;clear L;go_simp;exact I.out _ _ W rfl (T3.refl W) rfl
            · have ar:=Hd G
              have bj:=Hd hx.1;have ch:Dn M Te TG 12 W:=hv (9,none,[(8,some 78)]) (by simp);have cg:Dn M Te TG 13 W:=hv (11,none,[(10,some 79),(3,some 73)]) (by simp);have h0:vals 0=.pointer (some ⟨ge,0,none⟩):=hv (0,some 70,[]) (by simp);have h1:vals 1=.pointer (some ⟨ge,0,none⟩):=hv (1,some 71,[(0,some 70)]) (by simp);have h2:vals 2=.pointer (some ⟨ge,0,none⟩):=hv (2,some 72,[(1,some 71)]) (by simp);have h3:vals 3=.slice Aa ta.length ca:=hv (3,some 73,[(2,some 72)]) (by simp);have h4:vals 4=.pointer (some ⟨ge,0,none⟩):=hv (4,some 74,[]) (by simp);have h5:vals 5=.pointer (some ⟨ge,0,none⟩):=hv (5,some 75,[(4,some 74)]) (by simp);have h6:vals 6=.pointer (some ⟨ge,1,none⟩):=hv (6,some 76,[(5,some 75)]) (by simp);have h7:vals 7=.slice Ab ty.length cb:=hv (7,some 77,[(6,some 76)]) (by simp);have h8:vals 8=.pointer (some ⟨M,12,none⟩):=hv (8,some 78,[]) (by simp);have ac:vals 10=.pointer (some ⟨M,13,none⟩):=hv (10,some 79,[]) (by simp);have bi:vals 12=.pointer (some ⟨M,14,none⟩):=hv (12,some 80,[]) (by simp);clear hv;simp only[Vk,List.map_cons,List.map_nil,Act.put,Sa,Sb1,Sc,h0,h1,h2,h3,h4,h5,h6,h7,h8,ac,bi];clear h0 h1 h2 h3 h4 h5 h6 h7 h8 ac bi;clear vals;have av:=Hd (Ai1 ch cg);clear ch cg;obtain⟨⟨xz,z⟩,pf,lg⟩:=G.1.cell 14 (by rw[ao];decide);clear G hx;refine WZ.last rfl Kr Kr (λK I=>?_);go_simp;refine I.out _ _ ?_;clear I K;refine⟨rfl,?_⟩;have EL:T3 M Te TG W (W.setCell ⟨M,14,none⟩ (.slice Ab ty.length cb)):=T3.set 14 _ dz
              have GL:(W.setCell ⟨M,14,none⟩ (.slice Ab ty.length cb)).heap[M]?=some (.cells TG.toArray Te (0,0)):=Gf.fin (ar.out.1.keep EL) (λj hj=>by
                simp only[List.mem_cons,List.mem_nil_iff,or_false]at hj;rcases hj with rfl|rfl|rfl
                · exact av.out.1.keep EL
                · exact av.out.2.keep EL
                · exact Gf.set ar.out.1 14 _ dz)
              have au:=Hd (Ai1 (bj.out.then EL.1) GL);clear EL GL ar bj av z pf lg;generalize World.setCell _ ⟨M,14,none⟩ _=w6 at *;have az:=au.out.2;rw[dm.out]at az;have H6:=Hd (Ai1 az (show Fr (λk=>k=M) w5 w6 from ((Fr.refl (λk=>k=M) w5).drew).then au.out.1));clear az au;go_wp2_with fail
              go_meet
              case rel=>exact⟨_,rfl,Aa,_,ca,Ab,_,cb,H6.out.1,strs.keep dq.out.1 H6.out.2 (λk _ q e=>Om),strs.keep dq.out.2.1 H6.out.2 (λk _ q e=>Om),dq.out.2.2.then H6.out.2⟩
        case rest =>
        clear b0 b1 b2 b3 b4 b5 b6 b7 b8 lb;obtain⟨vp,rfl,HE⟩:=hcut;generalize wc=w6 at *;obtain⟨At,nt,ct,Ay,ny,cy,az,r6,r7,bk⟩:=HE.out;have X6:Zf w3 w6:=H4.out.1.trans bk (λk hk e=>by have:=H4.out.2.2.1;omega);obtain⟨b0,b1,b2,b3,b4,b5,b6,b7,b8,lb⟩:=bw.out w6 X6;have a8:M<w4.heap.size:=(Gs1.1 H4.out.2.1).1;have am:=Hd (Ai1 az (Ai1 r6 (Ai1 r7 (Ai1 (strs.keep H4.out.2.2.2.1 bk (λ_ _ q e=>q.2 e)) (Ai1 (strs.keep H4.out.2.2.2.2 bk (λ_ _ q e=>q.2 e)) X6)))));have a6:=Hd (Ai1 H4.out.2.2.1 (Ai1 a8 bk.size));clear HE az r6 r7 bk X6 H4 a8
        go_upto_region 13 with (first
          | (go_at_call 81;refine (CD.out _ am.out.2.2.2.2.2).mono ?_;rintro e w7 ⟨⟨vd,rfl,dv,cl,di,du,ck,dh,rfl⟩,d4⟩;have dl:=Hd d4;clear d4)
          | fail)
        clear b0 b1 b2 b3 b4 b5 b6 b7 b8 lb;obtain⟨gt,cx⟩:∃ gt,gt=w7.heap.size:=⟨_,rfl⟩;rw[<- cx];have bu:=alloc_at' w7 (.cells #[.int .i64 t.id,.int .i64 (t.start:Int),.int .i64 (t.fin:Int),.string t.surf,.string (Yj t.cls),.slice dv cl di,.string (Z.getD ⟨#[]⟩),.string (Y.getD ⟨#[]⟩),.string (V.getD ⟨#[]⟩),.slice du ck dh] TTD) cx;have cd:gt<(w7.alloc (.cells #[.int .i64 t.id,.int .i64 (t.start:Int),.int .i64 (t.fin:Int),.string t.surf,.string (Yj t.cls),.slice dv cl di,.string (Z.getD ⟨#[]⟩),.string (Y.getD ⟨#[]⟩),.string (V.getD ⟨#[]⟩),.slice du ck dh] TTD)).heap.size:=by rw[Za];omega
        have X8:Zf w6 (w7.alloc (.cells #[.int .i64 t.id,.int .i64 (t.start:Int),.int .i64 (t.fin:Int),.string t.surf,.string (Yj t.cls),.slice dv cl di,.string (Z.getD ⟨#[]⟩),.string (Y.getD ⟨#[]⟩),.string (V.getD ⟨#[]⟩),.slice du ck dh] TTD)):=dl.out.alloc _;have ai:¬ gt=M:=by have:=a6.out;have:=dl.out.size;omega
        have ap:=Hd X8;clear X8 dl cx;generalize World.alloc w7 _=w8 at *;have d8:=ap.out.heap am.out.1 id;obtain⟨TG,aa⟩:∃ TG:List Value,TG=[.slice AF nF cF,.slice AP nP cP,.string (Z.getD ⟨#[]⟩),.bool Z.isSome,.string (Y.getD ⟨#[]⟩),.bool Y.isSome,.string (V.getD ⟨#[]⟩),.bool V.isSome,.string (xt.getD ⟨#[]⟩),.bool xt.isSome,.string (xf.getD ⟨#[]⟩),.bool xf.isSome,.bool ex.isSome,.slice At nt ct,.slice Ay ny cy,.string st,.string cn,.string (Z.getD ⟨#[]⟩),.string (Y.getD ⟨#[]⟩),.string (V.getD ⟨#[]⟩)]:=⟨_,rfl⟩;have dy:TG[17]?=some (.string (Z.getD ⟨#[]⟩)):=by rw[aa];rfl
        have dx:TG[18]?=some (.string (Y.getD ⟨#[]⟩)):=by rw[aa];rfl
        have dw:TG[19]?=some (.string (V.getD ⟨#[]⟩)):=by rw[aa];rfl
        have ao:TG.length=20:=by rw[aa];rfl
        have dn:Hid (Gf M Te TG [17,18,19] w8.drew/\w8.drew.cell? ⟨gt,6,none⟩=some (.string (Z.getD ⟨#[]⟩))/\w8.drew.cell? ⟨gt,7,none⟩=some (.string (Y.getD ⟨#[]⟩))/\w8.drew.cell? ⟨gt,8,none⟩=some (.string (V.getD ⟨#[]⟩))/\gt<w8.drew.heap.size):=⟨⟨_,d8,by rw[aa];rfl,λj hj=>by
          rw[aa];simp only[List.mem_cons,List.mem_nil_iff,or_false,not_or]at hj
          rcases j with _|_|_|_|_|_|_|_|_|_|_|_|_|_|_|_|_|_|_|_|j<;>first|rfl|omega⟩,cell_of bu 6 _ rfl,cell_of bu 7 _ rfl,cell_of bu 8 _ rfl,cd⟩
        have bx:Hid (∀ W W',Fr (λk=>k=M) W W'->(W.cell? ⟨gt,6,none⟩=some (.string (Z.getD ⟨#[]⟩))/\W.cell? ⟨gt,7,none⟩=some (.string (Y.getD ⟨#[]⟩))/\W.cell? ⟨gt,8,none⟩=some (.string (V.getD ⟨#[]⟩))/\gt<W.heap.size)->W'.cell? ⟨gt,6,none⟩=some (.string (Z.getD ⟨#[]⟩))/\W'.cell? ⟨gt,7,none⟩=some (.string (Y.getD ⟨#[]⟩))/\W'.cell? ⟨gt,8,none⟩=some (.string (V.getD ⟨#[]⟩))/\gt<W'.heap.size):=λW W' f h=>⟨f.cell h.1 ai,f.cell h.2.1 ai,f.cell h.2.2.1 ai,Nat.lt_of_lt_of_le h.2.2.2 f.size⟩
        have dm:=Hd aa;clear aa d8 bu cd;refine P1 ?_;refine Ye 11 12 #[false,false,false,false,false,false,false,false,false,false,false,false] (λW=>Gf M Te TG [17,18,19] W/\W.cell? ⟨gt,6,none⟩=some (.string (Z.getD ⟨#[]⟩))/\W.cell? ⟨gt,7,none⟩=some (.string (Y.getD ⟨#[]⟩))/\W.cell? ⟨gt,8,none⟩=some (.string (V.getD ⟨#[]⟩))/\gt<W.heap.size) mixed rfl rfl (dn.out) (λhS=>?_)
        refine WZ.flowO (E:=T3 M Te TG) T3.refl (λ_ _ _=>T3.trans) 1 11 [(0,some 83,[]),(1,some 84,[(0,some 83)]),(2,some 85,[]),(3,some 86,[(2,some 85)]),(4,some 87,[]),(5,some 88,[(4,some 87)]),(6,some 89,[]),(7,none,[(6,some 89),(1,some 84)]),(8,some 90,[]),(9,none,[(8,some 90),(3,some 86)]),(10,some 91,[])]
          [(0,λv _=>v=.pointer (some ⟨gt,6,none⟩)),(1,λv _=>v=.string (Z.getD ⟨#[]⟩)),(2,λv _=>v=.pointer (some ⟨gt,7,none⟩)),(3,λv _=>v=.string (Y.getD ⟨#[]⟩)),(4,λv _=>v=.pointer (some ⟨gt,8,none⟩)),(5,λv _=>v=.string (V.getD ⟨#[]⟩)),(6,λv _=>v=.pointer (some ⟨M,17,none⟩)),(7,λ_ W=>Dn M Te TG 17 W),(8,λv _=>v=.pointer (some ⟨M,18,none⟩)),(9,λ_ W=>Dn M Te TG 18 W),(10,λv _=>v=.pointer (some ⟨M,19,none⟩))]
          Kr rfl (λW W' h e=>⟨h.1.keep e,bx.out W W' e.1 h.2⟩) ?_ (by assumption) ?_ (λvals W hx G hv=>?_)
        · simp only[List.forall_mem_cons]
          exact⟨λv W W' e h=>h,λv W W' e h=>h,λv W W' e h=>h,λv W W' e h=>h,λv W W' e h=>h,λv W W' e h=>h,λv W W' e h=>h,λv W W' e h=>Dn.keep h e,λv W W' e h=>h,λv W W' e h=>Dn.keep h e,λv W W' e h=>h,λ_ h=>nomatch h⟩
        · simp only[List.forall_mem_cons]
          refine⟨⟨_,rfl,λvals W G J Q' K I=>?_⟩,⟨_,rfl,λvals W G J Q' K I=>?_⟩,⟨_,rfl,λvals W G J Q' K I=>?_⟩,⟨_,rfl,λvals W G J Q' K I=>?_⟩,⟨_,rfl,λvals W G J Q' K I=>?_⟩,⟨_,rfl,λvals W G J Q' K I=>?_⟩,⟨_,rfl,λvals W G J Q' K I=>?_⟩,⟨_,rfl,λvals W G J Q' K I=>?_⟩,⟨_,rfl,λvals W G J Q' K I=>?_⟩,⟨_,rfl,λvals W G J Q' K I=>?_⟩,⟨_,rfl,λvals W G J Q' K I=>?_⟩,λ_ h=>nomatch h⟩
          · obtain⟨L,e0,e1,e2,le⟩:=G
            clear J;simp only[Vk]at I⊢;clear L;go_simp;exact I.out _ _ W rfl (T3.refl W) rfl
          · obtain⟨L,e0,e1,e2,le⟩:=G
            have h0:vals 0=.pointer (some ⟨gt,6,none⟩):=J (0,some 83) (by simp);clear J;simp only[Vk,h0]at I⊢;clear h0;clear L;go_simp;exact I.out _ _ W rfl (T3.refl W) rfl
          · obtain⟨L,e0,e1,e2,le⟩:=G
            clear J;simp only[Vk]at I⊢;clear L;go_simp;exact I.out _ _ W rfl (T3.refl W) rfl
          · obtain⟨L,e0,e1,e2,le⟩:=G
            have h2:vals 2=.pointer (some ⟨gt,7,none⟩):=J (2,some 85) (by simp);clear J;simp only[Vk,h2]at I⊢;clear h2;clear L;go_simp;exact I.out _ _ W rfl (T3.refl W) rfl
          · obtain⟨L,e0,e1,e2,le⟩:=G
            clear J;simp only[Vk]at I⊢;clear L;go_simp;exact I.out _ _ W rfl (T3.refl W) rfl
          · obtain⟨L,e0,e1,e2,le⟩:=G
            have h4:vals 4=.pointer (some ⟨gt,8,none⟩):=J (4,some 87) (by simp);clear J;simp only[Vk,h4]at I⊢;clear h4;clear L;go_simp;exact I.out _ _ W rfl (T3.refl W) rfl
          · obtain⟨L,e0,e1,e2,le⟩:=G
            clear J;simp only[Vk]at I⊢;clear L;go_simp;exact I.out _ _ W rfl (T3.refl W) rfl
          · obtain⟨L,e0,e1,e2,le⟩:=G
            have h6:vals 6=.pointer (some ⟨M,17,none⟩):=J (6,some 89) (by simp);have h1:vals 1=.string (Z.getD ⟨#[]⟩):=J (1,some 84) (by simp);clear J;simp only[Vk,h6,h1]at I⊢;clear h6 h1;obtain⟨⟨xz,z⟩,pf,lg⟩:=L.cell 17 (by rw[ao];decide);have aq:=Hd L;clear L;go_simp;exact I.out undef _ _ rfl (T3.set 17 _ dy) (Gf.set aq.out 17 _ dy)
          · obtain⟨L,e0,e1,e2,le⟩:=G
            clear J;simp only[Vk]at I⊢;clear L;go_simp;exact I.out _ _ W rfl (T3.refl W) rfl
          · obtain⟨L,e0,e1,e2,le⟩:=G
            have h8:vals 8=.pointer (some ⟨M,18,none⟩):=J (8,some 90) (by simp);have h3:vals 3=.string (Y.getD ⟨#[]⟩):=J (3,some 86) (by simp);clear J;simp only[Vk,h8,h3]at I⊢;clear h8 h3;obtain⟨⟨xz,z⟩,pf,lg⟩:=L.cell 18 (by rw[ao];decide);have aq:=Hd L;clear L;go_simp;exact I.out undef _ _ rfl (T3.set 18 _ dx) (Gf.set aq.out 18 _ dx)
          · obtain⟨L,e0,e1,e2,le⟩:=G
            clear J;simp only[Vk]at I⊢;clear L;go_simp;exact I.out _ _ W rfl (T3.refl W) rfl
        · have ar:=Hd G
          have bj:=Hd hx.1;have cf:Dn M Te TG 17 W:=hv (7,none,[(6,some 89),(1,some 84)]) (by simp);have ce:Dn M Te TG 18 W:=hv (9,none,[(8,some 90),(3,some 86)]) (by simp);have h0:vals 0=.pointer (some ⟨gt,6,none⟩):=hv (0,some 83,[]) (by simp);have h1:vals 1=.string (Z.getD ⟨#[]⟩):=hv (1,some 84,[(0,some 83)]) (by simp);have h2:vals 2=.pointer (some ⟨gt,7,none⟩):=hv (2,some 85,[]) (by simp);have h3:vals 3=.string (Y.getD ⟨#[]⟩):=hv (3,some 86,[(2,some 85)]) (by simp);have h4:vals 4=.pointer (some ⟨gt,8,none⟩):=hv (4,some 87,[]) (by simp);have h5:vals 5=.string (V.getD ⟨#[]⟩):=hv (5,some 88,[(4,some 87)]) (by simp);have h6:vals 6=.pointer (some ⟨M,17,none⟩):=hv (6,some 89,[]) (by simp);have h8:vals 8=.pointer (some ⟨M,18,none⟩):=hv (8,some 90,[]) (by simp);have ac:vals 10=.pointer (some ⟨M,19,none⟩):=hv (10,some 91,[]) (by simp);clear hv;simp only[Vk,List.map_cons,List.map_nil,Act.put,Sa,Sb1,Sc,h0,h1,h2,h3,h4,h5,h6,h8,ac];clear h0 h1 h2 h3 h4 h5 h6 h8 ac;clear vals;have av:=Hd (Ai1 cf ce);clear cf ce;obtain⟨⟨xz,z⟩,pf,lg⟩:=G.1.cell 19 (by rw[ao];decide);clear G hx;refine WZ.last rfl Kr Kr (λK I=>?_);go_simp;refine I.out _ _ ?_;clear I K;refine⟨rfl,?_⟩;have EL:T3 M Te TG W (W.setCell ⟨M,19,none⟩ (.string (V.getD ⟨#[]⟩))):=T3.set 19 _ dw
          have GL:(W.setCell ⟨M,19,none⟩ (.string (V.getD ⟨#[]⟩))).heap[M]?=some (.cells TG.toArray Te (0,0)):=Gf.fin (ar.out.1.keep EL) (λj hj=>by
            simp only[List.mem_cons,List.mem_nil_iff,or_false]at hj;rcases hj with rfl|rfl|rfl
            · exact av.out.1.keep EL
            · exact av.out.2.keep EL
            · exact Gf.set ar.out.1 19 _ dw)
          have au:=Hd (Ai1 (bj.out.then EL.1) GL);clear EL GL ar bj av z pf lg;generalize World.setCell _ ⟨M,19,none⟩ _=w9 at *;have cz:=au.out.2;rw[dm.out]at cz;have ds:Fr (λk=>k=M) w8 w9:=((Fr.refl (λk=>k=M) w8).drew).then au.out.1;have X9:Zf w3 w9:=(Z5 am.out.2.2.2.2.2 ap.out).trans ds (λk hk e=>by have:=a6.out;omega);have kp:∀ {O:Nat->Prop} {xs:List ByteArray} {v:Value},(∀ k,O k->k≠M)->strs.R w6 O xs [v]->strs.R w9 O xs [v]:=λhO h=>strs.keep (strs.ext h ap.out) ds (λk _ q e=>hO k q e)
          have r1:strs.R w9 (λj=>w3.heap.size<=j) ak [.slice AF nF cF]:=strs.mono (λ_ _ h=>h.1) (kp (λk q=>q.2) am.out.2.2.2.1);have r2:strs.R w9 (λj=>w3.heap.size<=j) ah [.slice AP nP cP]:=strs.mono (λ_ _ h=>h.1) (kp (λk q=>q.2) am.out.2.2.2.2.1);have r3:strs.R w9 (λj=>w3.heap.size<=j) ((ex.map (·.1)).getD []) [.slice At nt ct]:=strs.mono (λk _ h=>by have:=a6.out;omega) (kp (λk q e=>by have:=a6.out;omega) am.out.2.1);have r4:strs.R w9 (λj=>w3.heap.size<=j) ((ex.map (·.2)).getD []) [.slice Ay ny cy]:=strs.mono (λk _ h=>by have:=a6.out;omega) (kp (λk q e=>by have:=a6.out;omega) am.out.2.2.1);have bv:=X9.cell dr.out.2.1 id;have fk:=(X9.frozen dr.out.2.1 id).trans dr.out.2.2;have gi:=lt_of_cell bv;have a1:¬ u.ownBlock=some bo:=λe=>by have:=HL.out _ e;omega
          have bc:∀ j,w3.heap.size<=j->¬ u.ownBlock=some j:=λj hj e=>by have:=HL.out _ e;omega
          have al:w2.heap.size<=w3.heap.size:=HG.out.2.size
          have RD:∀ W,Zf w9 W->tDet.R W (λj=>w2.heap.size<=j/\u.ownBlock≠some j) ⟨ak,ah,Z,Y,V,xt,xf,ex,st,cn,Z.getD ⟨#[]⟩,Y.getD ⟨#[]⟩,V.getD ⟨#[]⟩⟩ [.slice AF nF cF,.slice AP nP cP,.string (Z.getD ⟨#[]⟩),.bool Z.isSome,.string (Y.getD ⟨#[]⟩),.bool Y.isSome,.string (V.getD ⟨#[]⟩),.bool V.isSome,.string (xt.getD ⟨#[]⟩),.bool xt.isSome,.string (xf.getD ⟨#[]⟩),.bool xf.isSome,.bool ex.isSome,.slice At nt ct,.slice Ay ny cy,.string st,.string cn,.string (Z.getD ⟨#[]⟩),.string (Y.getD ⟨#[]⟩),.string (V.getD ⟨#[]⟩)]:=λW f =>
            ⟨_,_,_,_,rfl,strs.mono (λk _ h=>⟨Nt al h,bc k h⟩) (strs.ext r1 f),strs.mono (λk _ h=>⟨Nt al h,bc k h⟩) (strs.ext r2 f),strs.mono (λk _ h=>⟨Nt al h,bc k h⟩) (strs.ext r3 f),strs.mono (λk _ h=>⟨Nt al h,bc k h⟩) (strs.ext r4 f)⟩
          have e9:=Hd RD;have dk:=Hd X9;have fa:=Hd a1;clear RD r1 r2 r3 r4 kp X9 ds bc a1 bx au am ap al;have fp:Hid (w9.rangeAt M 0 [.slice AF nF cF,.slice AP nP cP,.string (Z.getD ⟨#[]⟩),.bool Z.isSome,.string (Y.getD ⟨#[]⟩),.bool Y.isSome,.string (V.getD ⟨#[]⟩),.bool V.isSome,.string (xt.getD ⟨#[]⟩),.bool xt.isSome,.string (xf.getD ⟨#[]⟩),.bool xf.isSome,.bool ex.isSome,.slice At nt ct,.slice Ay ny cy,.string st,.string cn,.string (Z.getD ⟨#[]⟩),.string (Y.getD ⟨#[]⟩),.string (V.getD ⟨#[]⟩)]):=λj v hv=>by rw[Nat.zero_add];exact cell_of cz j v (by simpa using hv)
          clear cz
          go_wp2_with (first
            | (refine wpList_load_mid Rf 66 (.tmp 11) Rf M 0 Rf [.slice AF nF cF,.slice AP nP cP,.string (Z.getD ⟨#[]⟩),.bool Z.isSome,.string (Y.getD ⟨#[]⟩),.bool Y.isSome,.string (V.getD ⟨#[]⟩),.bool V.isSome,.string (xt.getD ⟨#[]⟩),.bool xt.isSome,.string (xf.getD ⟨#[]⟩),.bool xf.isSome,.bool ex.isSome,.slice At nt ct,.slice Ay ny cy,.string st,.string cn,.string (Z.getD ⟨#[]⟩),.string (Y.getD ⟨#[]⟩),.string (V.getD ⟨#[]⟩)] _ fp.out Tryz.underlying66 rfl Kr ?_;dsimp only[Act.put])
            | (at_builtin;refine RowK.lst (v:=u) rfl _ _ 59 rfl ⟨ak,ah,Z,Y,V,xt,xf,ex,st,cn,Z.getD ⟨#[]⟩,Y.getD ⟨#[]⟩,V.getD ⟨#[]⟩⟩ [.slice AF nF cF,.slice AP nP cP,.string (Z.getD ⟨#[]⟩),.bool Z.isSome,.string (Y.getD ⟨#[]⟩),.bool Y.isSome,.string (V.getD ⟨#[]⟩),.bool V.isSome,.string (xt.getD ⟨#[]⟩),.bool xt.isSome,.string (xf.getD ⟨#[]⟩),.bool xf.isSome,.bool ex.isSome,.slice At nt ct,.slice Ay ny cy,.string st,.string cn,.string (Z.getD ⟨#[]⟩),.string (Y.getD ⟨#[]⟩),.string (V.getD ⟨#[]⟩)] 304 ⟨w9.heap.size,0,none⟩ Tryz.underlying59 Zmd (by decide) Om rfl rfl ((HG.out.1.ext dk.out).ext ((Fl _).alloc _)) (by rw[List.length_map,List.length_take];omega) (by have:=dk.out.size;have:=HG.out.2.size;rw[Za];omega) (Fb (alloc_at _ _)) (e9.out _ ((Fl _).alloc _)) ?_;intro v' cj bd ax ea;obtain⟨A',c',cq⟩:=bd.own;rw[List.length_append,List.length_map,List.length_take,Nat.min_eq_left (by have:=HN.out;omega)]at cq;simp only[List.length_singleton]at cq;subst cq;have ci:=ax.cell (((Fe w9).alloc _).cell bv id) fa.out;have ey:=(ax.frozen (((Fe w9).alloc _).cell bv id) fa.out).trans ((((Fe w9).alloc _).frozen bv id).trans fk);have fs:=lt_of_cell ci;have fc:=Hd (Ai1 bd ax);clear bd ax ea)
            | fail)
          go_roundg (n-(i+1))
          case measure=>omega
          case rel =>
            have fd:Fr (λj=>j=bo) cj (cj.setCell ⟨bo,0,none⟩ (.slice A' (i+1) c')):=(Fl cj).setCell _ _ (λ_=>rfl);refine⟨i+1,_,by go_num,Om,Om,World.cell?_setCell_same' _ _ _ (by rw[ci];rfl),by rw[World.frozen?_setCell];exact ey,?_,((HG.out.2.ext (dk.out.alloc _)).trans fc.out.2 (λj hj e=>by have:=HL.out j e;omega)).then fd⟩;rw[HT.out,List.map_append,List.map_cons,List.map_nil,fq.out];exact fc.out.1.keep fd (λj hj _ e=>Om)
    · obtain rfl:i=n:=Om
      have hu:=HU.out;subst hu;have n1:¬ be=bo:=by have:=aw.out;omega
      have n2:¬ bo=be:=by have:=aw.out;omega
      have dj:=HR.out.2.cell c9 n1;have fl:=(HR.out.2.frozen c9 n1).trans f9;have lo:=lt_of_cell co;have le:=lt_of_cell dj;go_wp2_with fail
      have F9:Fr (λj=>j=bo\/j=be) wr ((wr.setCell ⟨bo,0,none⟩ (.slice Au i cu)).setCell ⟨be,0,none⟩ (.int .i64 0)):=((Fr.refl (λj=>j=bo\/j=be) wr).setCell ⟨bo,0,none⟩ _ (λ_=>.inl rfl)).setCell ⟨be,0,none⟩ _ (λ_=>.inr rfl);have X9:Zf w ((wr.setCell ⟨bo,0,none⟩ (.slice Au i cu)).setCell ⟨be,0,none⟩ (.int .i64 0)):=(HW.out.1.trans HR.out.2 (λj hj e=>by have:=aw.out;omega)).trans F9 (λj hj e=>by have:=aw.out;omega);have R9:=(HR.out.1.keep F9 (λj hj _ e=>by have l:be<w2.heap.size:=lt_of_cell c9;omega)).base HW.out.1.size;have y9:((wr.setCell ⟨bo,0,none⟩ (.slice Au i cu)).setCell ⟨be,0,none⟩ (.int .i64 0)).cell? ⟨be,0,none⟩=some (.int .i64 0):=World.cell?_setCell_same' _ _ _ (by rw[((Fr.refl (λj=>j=bo) wr).setCell ⟨bo,0,none⟩ _ (λ_=>rfl)).cell dj n1];rfl)
      have y8:((wr.setCell ⟨bo,0,none⟩ (.slice Au i cu)).setCell ⟨be,0,none⟩ (.int .i64 0)).cell? ⟨bo,0,none⟩=some (.slice Au i cu) :=
        ((Fr.refl (λj=>j=be) _).setCell ⟨be,0,none⟩ _ (λ_=>rfl)).cell (World.cell?_setCell_same' _ _ _ (by rw[co];rfl)) n2
      have ed:TL.take i=TL:=(by rw[HN.out,List.take_length]);rw[ed]at R9;have H9:=Hd (Ai1 R9 X9);clear F9 X9 R9 dj fl lo le co fo HR ed;generalize World.setCell _ _ _=w9 at *;refine leaves_cons (f:=68) (args:=#[.pointer (some ⟨bo,0,none⟩),.pointer (some ⟨be,0,none⟩)]) (by simp) (by simp[go_sem]) ?_;refine (Zhn _ _ _).mono ?_;rintro e u' w8 ⟨rfl,rfl,rfl⟩;simp[Leaves,settle,results,Tryz.results24,go_sem,y8,y9];exact⟨H9.out.1,H9.out.2⟩
end Go.Proofs.YtlfoalomaofejaaGreatDoor
