/- impl.Details. -/
import Derived.Test.YtlfoalomaofejaaGreatDoorC43
import Derived.Deep.MidRow
set_option linter.all false
set_option maxRecDepth 100000
set_option maxHeartbeats 4000000
namespace Go.Proofs.YtlfoalomaofejaaGreatDoor
open Go.RowKit DT SS TR LT Go
abbrev Tb:TypeId:=66
structure Zm6 where
 feats:List ByteArray
 pos:List ByteArray
 base:Option ByteArray
 read:Option ByteArray
 pron:Option ByteArray
 typ:Option ByteArray
 form:Option ByteArray
 extra:Option (List ByteArray×List ByteArray)
 text:ByteArray
 cls:ByteArray
 dbase:ByteArray
 dread:ByteArray
 dpron:ByteArray
def Zi9(d:Zg)(us:List GRec)(t:Yw):Zm6 :=
 ⟨Y2 d us t,Ov d us t,Zo d us t V6,Zo d us t V4,Zo d us t V5,Zo d us t J8,Zo d us t Pf,Pk us t,Zb1 t,Ye t.cls,(Zo d us t V6).getD ⟨#[]⟩,(Zo d us t V4).getD ⟨#[]⟩,(Zo d us t V5).getD ⟨#[]⟩⟩
abbrev Zno(x:Zm6)(vF vP vT vY:Value):List Value :=
 [vF,vP,.string (x.base.getD ⟨#[]⟩),.bool x.base.isSome,.string (x.read.getD ⟨#[]⟩),.bool x.read.isSome,.string (x.pron.getD ⟨#[]⟩),.bool x.pron.isSome,.string (x.typ.getD ⟨#[]⟩),.bool x.typ.isSome,.string (x.form.getD ⟨#[]⟩),.bool x.form.isSome,.bool x.extra.isSome,vT,vY,.string x.text,.string x.cls,.string x.dbase,.string x.dread,.string x.dpron]
def tDet:Ty Zm6 where
 sz:=20
 R:=λw O x cs=>∃ vF vP vT vY,cs=Zno x vF vP vT vY/\strs.R w O x.feats [vF]/\strs.R w O x.pos [vP]/\strs.R w O ((x.extra.map (·.1)).getD []) [vT]/\strs.R w O ((x.extra.map (·.2)).getD []) [vY]
 len:=by rintro _ _ x cs ⟨vF,vP,vT,vY,rfl,_⟩;rfl
 one:=by
  rintro w O x cs ⟨vF,vP,vT,vY,rfl,h1,h2,h3,h4⟩ u hu;have h1:=strs.one h1 vF (by simp);have h2:=strs.one h2 vP (by simp);have h3:=strs.one h3 vT (by simp);have h4:=strs.one h4 vY (by simp);simp only[Zno,List.mem_cons,List.mem_nil_iff,or_false]at hu;rcases hu with rfl|rfl|rfl|rfl|rfl|rfl|rfl|rfl|rfl|rfl|rfl|rfl|rfl|rfl|rfl|rfl|rfl|rfl|rfl|rfl<;>first|assumption|rfl
 mono:=by
  rintro w O O' x cs h ⟨vF,vP,vT,vY,e,h1,h2,h3,h4⟩;exact⟨vF,vP,vT,vY,e,strs.mono h h1,strs.mono h h2,strs.mono h h3,strs.mono h h4⟩
 move:=by
  rintro w w' O x cs h h' ⟨vF,vP,vT,vY,e,h1,h2,h3,h4⟩;exact⟨vF,vP,vT,vY,e,strs.move h h' h1,strs.move h h' h2,strs.move h h' h3,strs.move h h' h4⟩
theorem Zli:Pq Tryz.prog Tb 20 304:=Qg Kr
theorem Zdt{g:Nat}{T:TypeId}:∀ (l:List Value) (W:World) (j:Nat) (cs:List Value),W.heap[g]?=some (.cells cs.toArray T (0,0))->j+l.length=cs.length->(W.setCells g j l).heap[g]?=some (.cells (cs.take j++l).toArray T (0,0))/\Fr (λk=>k=g) W (W.setCells g j l)
 | [],W,j,cs,h,hl=>by
  refine⟨?_,Fl _⟩;rw[List.append_nil,List.take_of_length_le (by simp at hl;omega)];exact h
 | v::l,W,j,cs,h,hl=>by
  rw[List.length_cons]at hl;have hj:j<cs.length:=Om
  have h1:(W.setCell ⟨g,j,none⟩ v).heap[g]?=some (.cells (cs.set j v).toArray T (0,0)):=by
   have:=Yk h j v;rwa[List.setIfInBounds_toArray]at this
  obtain⟨a,b⟩:=Zdt l _ (j+1) (cs.set j v) h1 (by rw[List.length_set];omega);have F1:Fr (λk=>k=g) W (W.setCell ⟨g,j,none⟩ v):=(Fl W).setCell ⟨g,j,none⟩ v (λ_=>rfl);refine⟨?_,F1.trans b (λ_ _ q=>q)⟩
  have e:(cs.set j v).take (j+1)++l=cs.take j++v::l:=by
   rw[List.take_succ_eq_append_getElem (by rw[List.length_set];exact hj),List.getElem_set_self,List.take_set_of_le (Nl j),List.append_assoc];rfl
  rw[e]at a;exact a
theorem Zky{W:World}{g:Nat}{T:TypeId}{cs:Array Value}(h:W.heap[g]?=some (.cells cs T (0,0)))(l:List Value)(hl:l.length=cs.toList.length):(W.setCells g 0 l).heap[g]?=some (.cells l.toArray T (0,0))/\Fr (λk=>k=g) W (W.setCells g 0 l):=by
 have:=Zdt l W 0 cs.toList h Om;rwa[List.take_zero,List.nil_append]at this
theorem Zfi(A:Option Addr)(n c:Nat)(B:Option Addr)(m k:Nat)(b0 b1 b2 b3 b4 b5 b6:ByteArray)(o0 o1 o2 o3 o4:Bool)(b7 b8 b9:ByteArray)(q:Bool)(C D:Value)(hC:C.oneCell'=true)(hD:D.oneCell'=true) :
  ∀ v∈([.slice A n c,.slice B m k,.string b0,.bool o0,.string b1,.bool o1,.string b2,.bool o2,.string b3,.bool o3,.string b4,.bool o4,.bool q,C,D,.string b5,.string b6,.string b7,.string b8,.string b9]:List Value),v.oneCell'=true:=by
 intro v hv;simp only[List.mem_cons,List.mem_nil_iff,or_false]at hv;rcases hv with rfl|rfl|rfl|rfl|rfl|rfl|rfl|rfl|rfl|rfl|rfl|rfl|rfl|rfl|rfl|rfl|rfl|rfl|rfl|rfl<;>first|assumption|rfl
theorem Br{P:Program}{ops:Array Oper}{o:Oper}{a:Act}{w:World}{K:Act->World->Prop}{Q:Exit->Act->World->Prop}{E:Prop}(hg:o.guard=none)(hd:o.dst=none)(ty:TypeId)(x y:Operand)(ho:o.op=.store ty x y)(b:Nat)(cells cs0:Array Value)(T:TypeId)
  (hh:w.heap[b]?=some (.cells cs0 T (0,0))) (hs:cells.toList.length=cs0.toList.length) (hx:a.eval x=.pointer (some ⟨b,0,none⟩)) (hy:a.eval y=.agg cells) (hi:(P.info? ty).map (·.size)=some cells.size) (h1:cells.all (·.oneCell')=true)
  (h:∀ W',W'.heap[b]?=some (.cells cells T (0,0))->Fr (λk=>k=b) w W'->K a W'):if Region.wanted o (yielded ops a.tmps)=true then Oper.wp P o a w K Q else E:=by
 have hw:Region.wanted o (yielded ops a.tmps)=true:=by simp[Region.wanted,hg]
 rw[if_pos hw];obtain⟨k1,k2⟩:=Zky hh cells.toList hs;refine wp_store_mid ty x y ho b 0 cells hx hy (λj hj=>?_) hi h1 (by rw[hd];exact h _ k1 k2);have hj:j<cs0.size:=by simp only[Array.length_toList]at hs;omega
 rw[Nat.zero_add];refine⟨?_,Zi hh j⟩;rw[cell_of hh j cs0[j] (Array.getElem?_eq_getElem hj)];rfl
theorem Zgl(p q:Addr)(w:World) :
  CallsD Tryz.prog 68 #[.pointer (some p),.pointer (some q)] .returning w λe u' w'=>e=.returned (.tuple #[])/\u'=.returning/\w'=w:=by
 refine callsD_of_wpS Tryz.func68 rfl λc₀ cs hu=>?_
 apply wpS_seq;apply wpS_region;simp[wpOpsS,go_sem,recoverD,hu,Tryz.ntmps68,Exit.thenS];refine wpS_cond (t:=false) (by simp[Act.eval,Array.replicate]) ?_;simp only[Bool.false_eq_true,if_false];refine wpS_of_wp (wp_skip ?_);cases c₀;simp_all [bodyPostS,results,Tryz.results68]
theorem Za5(d:Zg)(cs:List Value)(O:Nat->Prop)(uks:Option (List ByteArray))(X:XU)(us:List GRec)(s:ByteArray)(hs:Rd s)(hsz:s.size<=300)(mode:Int)(w:World)(h:tDict.R w O d cs)(hTb:Tbs w)(hT:U8 w)(hd:I4 d)(hr:Zm d=true)(hTO:Kv d cs uks X w)
    (hTD:∀ W v kd H U ku w',Zjz d uks X false mode s W v kd H U ku w'->Wv d us kd (Zfk uks ku) H U w') (hIn:∀ t∈Vn (Z2 d uks) false (Oy mode) s,V8 d us t) (hlen:(Vn (Z2 d uks) false (Oy mode) s).length<=1000000000) :
    Calls Tryz.prog 24 #[.agg cs.toArray,.string s,.int .i64 mode] w λe w'=>∃ v,e=.returned (.tuple #[v,.int .i64 0])/\RowK tDet Tb v ((Vn (Z2 d uks) false (Oy mode) s).map (Zi9 d us)) w.heap.size w'/\Zf w w':=by
  have mixed:Tryz.prog.follows .mixedOrders=true:=Kr
  have H:=Hd (Ai1 h (Ai1 hT hTO));have HD:=Hd (Ai1 hd hr);have HTb:=Hd hTb;clear hTb;have HQ:=Hd (Ai1 hTD hIn);obtain⟨A1,c1,A2,c2,A3,c3,A4,c4,A5,c5,A6,c6,A7,c7,A8,c8,rfl,_⟩:=Yy h;clear h hT hTO hd hr hTD hIn;obtain⟨TL,hTL⟩:∃ TL,TL=Vn (Z2 d uks) false (Oy mode) s:=⟨_,rfl⟩;rw[<- hTL]at hlen⊢;have HTL:=Hd hTL;clear hTL;have hmf:∀ (fn:Fn) (first cap:Array Value) (w:World),(Instr.makeFunc fn first cap).run Tryz.prog w=.ok (.func fn first cap) w:=λ_ _ _ _=>rfl
  go_enter_defers Tryz.func24,Tryz.ntmps24
  go_upto_region 5 with (first
    | (go_at_call 69;refine (Dx d _ O uks X s hs hsz mode false _ (tDict.ext H.out.1 ((((Fl w).alloc _).alloc _).alloc _)) (H.out.2.1.ext ((((Fl w).alloc _).alloc _).alloc _)) HD.out.1 HD.out.2 (λom W f=>H.out.2.2 om W (((((Fl w).alloc _).alloc _).alloc _).then f))).mono ?_;rintro e w1 ⟨v,kd,HH,U,ku,rfl,hx⟩;obtain⟨b8,f8,b9,f9,l8,l9,hx9⟩:=Ht hx.2.2.2.2.2;have HX:=Hd (Ai1 hx9 hx);clear hx hx9)
    | fail)
  obtain⟨bo,hbo⟩:∃ bo,bo=w.heap.size+1:=⟨_,rfl⟩;obtain⟨be,hbe⟩:∃ be,be=bo+1:=⟨_,rfl⟩;rw[<- hbo]at b8 f8 b9 f9 l8 l9⊢;rw[<- hbe]at b9 f9 l9⊢;have hrow:=HX.out.2.1;obtain⟨Av,cv,hv⟩:=Zl hrow;rw[<- HTL.out]at hrow hv;subst hv;have F1:Fr (λj=>j=be) w1 (w1.setCell ⟨be,0,none⟩ (.int .i64 0)):=(Fl w1).setCell _ _ (λ_=>rfl);have hB3:w.heap.size+3<=(((w.alloc (.cells #[.slice A1 d.words.length c1,.int .i64 d.rows,.int .i64 d.cols,.slice A2 d.costs.length c2,.slice A3 d.classes.length c3,.slice A4 d.chars.length c4,.slice A5 d.unknown.length c5,.slice A6 d.meta0.length c6,.slice A7 d.unkMeta.length c7,.bool d.hasUser,.slice A8 d.user.length c8] 30)).alloc (.cells #[.slice none 0 0] 59)).alloc (.cells #[.int .i64 0] 3)).heap.size:=by rw[Za,Za,Za];omega
  have hHH:w.heap.size+3<=HH:=Nt hB3 HX.out.2.2.2.2.2.1;have T1:=(HQ.out.1 _ _ _ _ _ _ _ HX.out.2).keep F1 (λb hb _ e=>Om);have R1:=Zs hrow F1 (λj e=>by have:=Y1 (g:=j) hrow e;omega);have R1:=Sn R1 hB3;have c8:=F1.cell b8 ((Om:¬ bo=be));have f8:=(F1.frozen b8 ((Om:¬ bo=be))).trans f8;have c9:(w1.setCell ⟨be,0,none⟩ (.int .i64 0)).cell? ⟨be,0,none⟩=some (.int .i64 0):=World.cell?_setCell_same' _ _ _ (by rw[b9];rfl);have f9:(w1.setCell ⟨be,0,none⟩ (.int .i64 0)).frozen? ⟨be,0,none⟩=false:=by rw[World.frozen?_setCell];exact f9
  have X1:Zf w (w1.setCell ⟨be,0,none⟩ (.int .i64 0)):=HX.out.1.trans F1 (λj hj e=>Om);have HW:=Hd (Ai1 X1 (Ai1 T1 (Ai1 hHH R1)));have HBB:=Hd (Ai1 hbo hbe);clear X1 T1 R1 hHH hB3 F1 hrow HX b8 b9 l8 l9 hbo hbe;generalize w1.setCell _ _=w2 at *;obtain⟨n,hne⟩:∃ n,n=TL.length:=⟨_,rfl⟩;have HN:=Hd hne;rw[<- hne]at hlen⊢;clear hne;go_wp2_with fail
  have hb2:bo<w2.heap.size:=lt_of_cell c8
  go_loopg [27] n (λg1 v27 wr=>∃ (i:Nat) (u:Value),v27=.int .i64 (i:Int)/\i<=n/\n<=i+g1/\wr.cell? ⟨bo,0,none⟩=some u/\wr.frozen? ⟨bo,0,none⟩=false/\Hid (RowK tDet Tb u ((TL.take i).map (Zi9 d us)) w2.heap.size wr/\Fr (λj=>j=bo) w2 wr))
  case atStart=>exact⟨0,_,rfl,Om,Om,c8,f8,RowK.nil _,Fl _⟩
  case round =>
    obtain⟨i,u,rfl,hi,hg,co,fo,HR⟩:=hrel;obtain⟨Au,cu,hu⟩:=HR.out.1.own;rw[List.length_map,List.length_take,Nat.min_eq_left (by have:=HN.out;omega)]at hu;have HU:=Hd hu;clear hu;by_cases hlt:i<n
    · have hlz:(i:Int)<(n:Int):=Om
      have hz0:(0:Int)<=(i:Int):=Om;have hil:i<TL.length:=by rw[<- HN.out];exact hlt
      have hrow:=HW.out.2.2.2;rw[<- HN.out]at hrow;obtain⟨g,rfl,lg,hg'⟩:=Znx hrow HR.out.2 (λj hj _ e=>by have:=HBB.out;omega) HN.out i hil;have HT:Hid (TL.take (i+1)=TL.take i++[TL[i]]):=List.take_succ_eq_append_getElem hil;have HTI:=Hd (HQ.out.2 TL[i] (by rw[<- HTL.out];exact List.getElem_mem hil));have HTD:=Hd (HW.out.2.1.keep HR.out.2 (λb hb _ e=>by have:=HBB.out;have:=HW.out.2.2.1;omega));generalize TL[i]=t at *;have q0:wr.cell? ⟨g,i*9,none⟩=some (.int .i64 t.index):=hg' 0 Om;have q1:wr.cell? ⟨g,i*9+1,none⟩=some (.int .i64 t.id):=hg' 1 Om;have q2:wr.cell? ⟨g,i*9+2,none⟩=some (.int .i64 t.cls):=hg' 2 Om;have q3:wr.cell? ⟨g,i*9+3,none⟩=some (.int .i64 t.pos):=hg' 3 Om;have q4:wr.cell? ⟨g,i*9+4,none⟩=some (.int .i64 t.start):=hg' 4 Om;have q5:wr.cell? ⟨g,i*9+5,none⟩=some (.int .i64 t.fin):=hg' 5 Om;have q6:wr.cell? ⟨g,i*9+6,none⟩=some (.string t.surf):=hg' 6 Om;have q7:wr.cell? ⟨g,i*9+7,none⟩=some (.pointer (some ⟨kd,0,none⟩)):=hg' 7 Om;have q8:wr.cell? ⟨g,i*9+8,none⟩=some (.pointer (Zfk uks ku)):=hg' 8 Om;generalize Zfk uks ku=pu at *;clear hg' hil hrow;go_upto_region 8 with fail
      obtain⟨tb,htb⟩:∃ tb,tb=wr.heap.size:=⟨_,rfl⟩;rw[<- htb];have K1:=alloc_at' wr (Zr kd pu t) htb;have X1:Zf wr (wr.alloc (Zr kd pu t)):=(Fl wr).alloc _;have co1:=X1.cell co id;have fo1:=(X1.frozen co id).trans fo;have HL:Hid (∀ j,u.ownBlock=some j->w2.heap.size<=j/\j<tb):=λj e=>by rw[htb];exact HR.out.1.low j e
      have hUw:=HW.out.2.1.dict.lt;have HG:=Hd (Ai1 (HR.out.1.ext X1) (HR.out.2.trans X1 (λ_ _ e=>e.elim)));have hws:w2.heap.size<=tb:=by rw[htb];exact HR.out.2.size
      have hws3:tb<(wr.alloc (Zr kd pu t)).heap.size:=by rw[Za];omega
      have HSS:Hid (∀ W,Zf (wr.alloc (Zr kd pu t)) W->W.cell? ⟨tb,0,none⟩=some (Value.int .i64 (t.index:Int))/\W.cell? ⟨tb,1,none⟩=some (Value.int .i64 t.id)/\W.cell? ⟨tb,2,none⟩=some (Value.int .i64 (t.cls:Int))/\W.cell? ⟨tb,3,none⟩=some (Value.int .i64 (t.pos:Int))/\W.cell? ⟨tb,4,none⟩=some (Value.int .i64 (t.start:Int))/\W.cell? ⟨tb,5,none⟩=some (Value.int .i64 (t.fin:Int))/\W.cell? ⟨tb,6,none⟩=some (Value.string t.surf)/\W.cell? ⟨tb,7,none⟩=some (Value.pointer (some ⟨kd,0,none⟩))/\W.cell? ⟨tb,8,none⟩=some (Value.pointer pu)/\tb<W.heap.size):=λW f=>Lo (f.heap K1 id)
      have TD3:=HTD.out.ext X1;have TB3:Tbs (wr.alloc (Zr kd pu t)):=(HTb.out.ext (HW.out.1.trans HR.out.2 (λj hj e=>by have:=HBB.out;omega))).ext X1;have HC:=Hd (Ai1 TD3 TB3);clear TD3 TB3;have HKB:=Hd (Ai1 K1 (Ai1 co1 fo1));clear K1 X1 co1 fo1 HTD q0 q1 q2 q3 q4 q5 q6 q7 q8 lg co fo hUw HR;have HTB:=Hd htb;clear htb;generalize wr.alloc _=w3 at *;obtain⟨fts,hfts⟩:∃ x,x=Y2 d us t:=⟨_,rfl⟩;obtain⟨pts,hpts⟩:∃ x,x=Ov d us t:=⟨_,rfl⟩;obtain⟨xb,hxb⟩:∃ x,x=Zo d us t V6:=⟨_,rfl⟩;obtain⟨xr,hxr⟩:∃ x,x=Zo d us t V4:=⟨_,rfl⟩;obtain⟨xp,hxp⟩:∃ x,x=Zo d us t V5:=⟨_,rfl⟩;obtain⟨xt,hxt⟩:∃ x,x=Zo d us t J8:=⟨_,rfl⟩;obtain⟨xf,hxf⟩:∃ x,x=Zo d us t Pf:=⟨_,rfl⟩;obtain⟨ex,hex⟩:∃ x,x=Pk us t:=⟨_,rfl⟩;obtain⟨st,hst⟩:∃ x,x=Zb1 t:=⟨_,rfl⟩;obtain⟨cn,hcn⟩:∃ x,x=Ye t.cls:=⟨_,rfl⟩;have CF:Hid (∀ W,Zf w3 W->Calls Tryz.prog 70 #[.agg (Yh kd pu t).toArray] W λe w'=>∃ v,e=.returned v/\strs.R w' (λj=>W.heap.size<=j) fts [v]/\Zf W w'):=λW f=>by rw[hfts];exact Za1 HTI.out (HC.out.1.ext f)
      have CP:Hid (∀ W,Zf w3 W->Calls Tryz.prog 71 #[.agg (Yh kd pu t).toArray] W λe w'=>∃ v,e=.returned v/\strs.R w' (λj=>W.heap.size<=j) pts [v]/\Zf W w'):=λW f=>by rw[hpts];exact Zdu HTI.out (HC.out.1.ext f)
      have Cb:Hid (∀ W,Zf w3 W->Calls Tryz.prog 73 #[.agg (Yh kd pu t).toArray] W λe w'=>e=.returned (Yp xb)/\Zf W w'):=λW f=>by rw[hxb];exact L9 HTI.out (HC.out.1.ext f)
      have Cr:Hid (∀ W,Zf w3 W->Calls Tryz.prog 74 #[.agg (Yh kd pu t).toArray] W λe w'=>e=.returned (Yp xr)/\Zf W w'):=λW f=>by rw[hxr];exact L7 HTI.out (HC.out.1.ext f)
      have Cp:Hid (∀ W,Zf w3 W->Calls Tryz.prog 75 #[.agg (Yh kd pu t).toArray] W λe w'=>e=.returned (Yp xp)/\Zf W w'):=λW f=>by rw[hxp];exact L8 HTI.out (HC.out.1.ext f)
      have Ct:Hid (∀ W,Zf w3 W->Calls Tryz.prog 76 #[.agg (Yh kd pu t).toArray] W λe w'=>e=.returned (Yp xt)/\Zf W w'):=λW f=>by rw[hxt];exact Zcr HTI.out (HC.out.1.ext f)
      have Cf:Hid (∀ W,Zf w3 W->Calls Tryz.prog 77 #[.agg (Yh kd pu t).toArray] W λe w'=>e=.returned (Yp xf)/\Zf W w'):=λW f=>by rw[hxf];exact Za0 HTI.out (HC.out.1.ext f)
      have Cs:Hid (∀ W,Zf w3 W->Calls Tryz.prog 78 #[.agg (Yh kd pu t).toArray] W λe w'=>e=.returned (.string st)/\Zf W w'):=λW f=>by rw[hst];exact Zkh t kd pu W HTI.out (HC.out.2.ext f)
      have Cc:Hid (∀ W,Calls Tryz.prog 79 #[.int .i64 (t.cls:Int)] W λe w'=>e=.returned (.string cn)/\Zf W w'):=λW=>by rw[hcn];exact Du t.cls HTI.out.cls W
      have CE:Hid (∀ W,Zf w3 W->Calls Tryz.prog 80 #[.agg (Yh kd pu t).toArray] W λe w'=>∃ v,e=.returned v/\D8 w' W.heap.size ex v/\Zf W w'):=λW f=>by rw[hex];exact Zga HTI.out (HC.out.1.ext f)
      have CD:Hid (∀ W,Zf w3 W->Calls Tryz.prog 81 #[.agg (Yh kd pu t).toArray] W λe w'=>(∃ v,e=.returned v/\Zdh t (xb.getD ⟨#[]⟩) (xr.getD ⟨#[]⟩) (xp.getD ⟨#[]⟩) v)/\Zf W w'):=λW f=>by rw[hxb,hxr,hxp];exact Zjd t kd _ _ pu W HTI.out (HC.out.1.ext f)
      have HDT:Hid (Zi9 d us t=⟨fts,pts,xb,xr,xp,xt,xf,ex,st,cn,xb.getD ⟨#[]⟩,xr.getD ⟨#[]⟩,xp.getD ⟨#[]⟩⟩):=by rw[hfts,hpts,hxb,hxr,hxp,hxt,hxf,hex,hst,hcn];rfl
      clear hfts hpts hxb hxr hxp hxt hxf hex hst hcn;refine Pr ?_;refine Ya 36 37 #[false,false,false,false,false,false,false,false,false,false,false,false,false,false,false,false,false,false,false,false,false,false,false,false,false,false,false,false,false,false,false,false,false,false,false,false,false] (λW=>Zf w3 W/\W.cell? ⟨tb,0,none⟩=some (Value.int .i64 (t.index:Int))/\W.cell? ⟨tb,1,none⟩=some (Value.int .i64 t.id)/\W.cell? ⟨tb,2,none⟩=some (Value.int .i64 (t.cls:Int))/\W.cell? ⟨tb,3,none⟩=some (Value.int .i64 (t.pos:Int))/\W.cell? ⟨tb,4,none⟩=some (Value.int .i64 (t.start:Int))/\W.cell? ⟨tb,5,none⟩=some (Value.int .i64 (t.fin:Int))/\W.cell? ⟨tb,6,none⟩=some (Value.string t.surf)/\W.cell? ⟨tb,7,none⟩=some (Value.pointer (some ⟨kd,0,none⟩))/\W.cell? ⟨tb,8,none⟩=some (Value.pointer pu)/\tb<W.heap.size) mixed rfl rfl (⟨(Fl w3).drew,HSS.out w3.drew ((Fl w3).drew)⟩) (λhS=>?_);refine WL.go [(0,31),(2,33),(4,35),(9,40),(14,45),(19,50),(24,55),(29,60),(31,62),(32,63)] ?_;iterate 10 (refine WL.tk (v:=?_) rfl rfl Kr (λ_ _ _ h=>nomatch h.1) (Or.inl ⟨Rf,?_⟩) (by assumption) ?_;rotate_left;(focus (intro w hSw;(try obtain⟨sf,b0,b1,b2,b3,b4,b5,b6,b7,b8,lb⟩:=hSw);go_simp;(try with_reducible rfl)));simp only[Act.put,Sa,Sb1,Sc])
      refine WZ.flowJ 1 36 [(1,32,[]),(3,34,[]),(5,36,[]),(6,37,[(5,36)]),(7,38,[(5,36)]),(8,39,[(6,37),(7,38)]),(10,41,[]),(11,42,[(10,41)]),(12,43,[(10,41)]),(13,44,[(11,42),(12,43)]),(15,46,[]),(16,47,[(15,46)]),(17,48,[(15,46)]),(18,49,[(16,47),(17,48)]),(20,51,[]),(21,52,[(20,51)]),(22,53,[(20,51)]),(23,54,[(21,52),(22,53)]),(25,56,[]),(26,57,[(25,56)]),(27,58,[(25,56)]),(28,59,[(26,57),(27,58)]),(30,61,[]),(33,64,[]),(34,65,[(1,32),(3,34),(8,39),(13,44),(18,49),(23,54),(28,59),(30,61),(33,64)]),(35,11,[])]
        [(1,λv _ lo hi W=>∃ A n c,v=.slice A n c/\w3.heap.size<=lo/\strs.R W (λj=>lo<=j/\j<hi) fts [v]),
         (3,λv _ lo hi W=>∃ A n c,v=.slice A n c/\w3.heap.size<=lo/\strs.R W (λj=>lo<=j/\j<hi) pts [v]),
         (5,λv _ _ _ _=>v=Yp xb),
         (6,λv _ _ _ _=>v=.string (xb.getD ⟨#[]⟩)),
         (7,λv _ _ _ _=>v=.bool xb.isSome),
         (8,λv _ _ _ _=>v=.agg #[.string (xb.getD ⟨#[]⟩),.bool xb.isSome]),
         (10,λv _ _ _ _=>v=Yp xr),
         (11,λv _ _ _ _=>v=.string (xr.getD ⟨#[]⟩)),
         (12,λv _ _ _ _=>v=.bool xr.isSome),
         (13,λv _ _ _ _=>v=.agg #[.string (xr.getD ⟨#[]⟩),.bool xr.isSome]),
         (15,λv _ _ _ _=>v=Yp xp),
         (16,λv _ _ _ _=>v=.string (xp.getD ⟨#[]⟩)),
         (17,λv _ _ _ _=>v=.bool xp.isSome),
         (18,λv _ _ _ _=>v=.agg #[.string (xp.getD ⟨#[]⟩),.bool xp.isSome]),
         (20,λv _ _ _ _=>v=Yp xt),
         (21,λv _ _ _ _=>v=.string (xt.getD ⟨#[]⟩)),
         (22,λv _ _ _ _=>v=.bool xt.isSome),
         (23,λv _ _ _ _=>v=.agg #[.string (xt.getD ⟨#[]⟩),.bool xt.isSome]),
         (25,λv _ _ _ _=>v=Yp xf),
         (26,λv _ _ _ _=>v=.string (xf.getD ⟨#[]⟩)),
         (27,λv _ _ _ _=>v=.bool xf.isSome),
         (28,λv _ _ _ _=>v=.agg #[.string (xf.getD ⟨#[]⟩),.bool xf.isSome]),
         (30,λv _ _ _ _=>v=.string st),
         (33,λv _ _ _ _=>v=.string cn),
         (34,λv us _ _ _=>∃ AF nF cF AP nP cP rest,us=.slice AF nF cF :: .slice AP nP cP::rest/\v=.agg #[.slice AF nF cF,.slice AP nP cP,.string (xb.getD ⟨#[]⟩),.bool xb.isSome,.string (xr.getD ⟨#[]⟩),.bool xr.isSome,.string (xp.getD ⟨#[]⟩),.bool xp.isSome,.string (xt.getD ⟨#[]⟩),.bool xt.isSome,.string (xf.getD ⟨#[]⟩),.bool xf.isSome,.bool false,.slice none 0 0,.slice none 0 0,.string st,.string cn,.string ⟨#[]⟩,.string ⟨#[]⟩,.string ⟨#[]⟩]),
         (35,λv _ lo hi W=>∃ gd,v=.pointer (some ⟨gd,0,none⟩)/\w3.heap.size<=gd/\lo<=gd/\gd<hi/\W.heap[gd]?=some (.cells #[.slice none 0 0,.slice none 0 0,.string ⟨#[]⟩,.bool false,.string ⟨#[]⟩,.bool false,.string ⟨#[]⟩,.bool false,.string ⟨#[]⟩,.bool false,.string ⟨#[]⟩,.bool false,.bool false,.slice none 0 0,.slice none 0 0,.string ⟨#[]⟩,.string ⟨#[]⟩,.string ⟨#[]⟩,.string ⟨#[]⟩,.string ⟨#[]⟩] Tb (0,0)))]
        Kr rfl (λW W' h f=>⟨Z5 h.1 f,HSS.out W' (Z5 h.1 f)⟩) ?_ (by assumption) ?_ (λvals lo hi W hx hSw hv hiv=>?_)
      · simp only[List.forall_mem_cons]
        exact⟨λv _ lo hi W W' f ⟨A,n,c,e,l,h⟩=>⟨A,n,c,e,l,strs.ext h f⟩,λv _ lo hi W W' f ⟨A,n,c,e,l,h⟩=>⟨A,n,c,e,l,strs.ext h f⟩,λ_ _ _ _ _ _ _ h=>h,λ_ _ _ _ _ _ _ h=>h,λ_ _ _ _ _ _ _ h=>h,λ_ _ _ _ _ _ _ h=>h,λ_ _ _ _ _ _ _ h=>h,λ_ _ _ _ _ _ _ h=>h,λ_ _ _ _ _ _ _ h=>h,λ_ _ _ _ _ _ _ h=>h,λ_ _ _ _ _ _ _ h=>h,λ_ _ _ _ _ _ _ h=>h,λ_ _ _ _ _ _ _ h=>h,λ_ _ _ _ _ _ _ h=>h,λ_ _ _ _ _ _ _ h=>h,λ_ _ _ _ _ _ _ h=>h,λ_ _ _ _ _ _ _ h=>h,λ_ _ _ _ _ _ _ h=>h,λ_ _ _ _ _ _ _ h=>h,λ_ _ _ _ _ _ _ h=>h,λ_ _ _ _ _ _ _ h=>h,λ_ _ _ _ _ _ _ h=>h,λ_ _ _ _ _ _ _ h=>h,λ_ _ _ _ _ _ _ h=>h,λ_ _ _ _ _ _ _ h=>h,λv _ lo hi W W' f ⟨gd,e,h1,h2,h3,h4⟩=>⟨gd,e,h1,h2,h3,f.heap h4 id⟩,λ_ h=>nomatch h⟩
      · simp only[List.forall_mem_cons]
        refine⟨⟨_,rfl,λvals W hSw hD Q' K hK=>?_⟩,⟨_,rfl,λvals W hSw hD Q' K hK=>?_⟩,⟨_,rfl,λvals W hSw hD Q' K hK=>?_⟩,⟨_,rfl,λvals W hSw hD Q' K hK=>?_⟩,⟨_,rfl,λvals W hSw hD Q' K hK=>?_⟩,⟨_,rfl,λvals W hSw hD Q' K hK=>?_⟩,⟨_,rfl,λvals W hSw hD Q' K hK=>?_⟩,⟨_,rfl,λvals W hSw hD Q' K hK=>?_⟩,⟨_,rfl,λvals W hSw hD Q' K hK=>?_⟩,⟨_,rfl,λvals W hSw hD Q' K hK=>?_⟩,⟨_,rfl,λvals W hSw hD Q' K hK=>?_⟩,⟨_,rfl,λvals W hSw hD Q' K hK=>?_⟩,⟨_,rfl,λvals W hSw hD Q' K hK=>?_⟩,⟨_,rfl,λvals W hSw hD Q' K hK=>?_⟩,⟨_,rfl,λvals W hSw hD Q' K hK=>?_⟩,⟨_,rfl,λvals W hSw hD Q' K hK=>?_⟩,⟨_,rfl,λvals W hSw hD Q' K hK=>?_⟩,⟨_,rfl,λvals W hSw hD Q' K hK=>?_⟩,⟨_,rfl,λvals W hSw hD Q' K hK=>?_⟩,⟨_,rfl,λvals W hSw hD Q' K hK=>?_⟩,⟨_,rfl,λvals W hSw hD Q' K hK=>?_⟩,⟨_,rfl,λvals W hSw hD Q' K hK=>?_⟩,⟨_,rfl,λvals W hSw hD Q' K hK=>?_⟩,⟨_,rfl,λvals W hSw hD Q' K hK=>?_⟩,⟨_,rfl,λvals W hSw hD Q' K hK=>?_⟩,⟨_,rfl,λvals W hSw hD Q' K hK=>?_⟩,λ_ h=>nomatch h⟩
        ·
          have C:=Hd (CF.out W hSw.1);have HSW:=Hd hSw.1;clear hD hSw;simp only[Yc];go_simp;go_wp2_with (go_at_call 70;refine C.out.mono ?_;rintro e w5 ⟨v,rfl,hr,hx⟩)
          obtain⟨A,c,rfl⟩:=Yq hr;exact hK.out _ _ w5 rfl hx ⟨_,_,_,rfl,HSW.out.size,strs.mono (λ_ hk h=>⟨h,hk⟩) hr⟩
        ·
          have C:=Hd (CP.out W hSw.1);have HSW:=Hd hSw.1;clear hD hSw;simp only[Yc];go_simp;go_wp2_with (go_at_call 71;refine C.out.mono ?_;rintro e w5 ⟨v,rfl,hr,hx⟩)
          obtain⟨A,c,rfl⟩:=Yq hr;exact hK.out _ _ w5 rfl hx ⟨_,_,_,rfl,HSW.out.size,strs.mono (λ_ hk h=>⟨h,hk⟩) hr⟩
        ·
          have C:=Hd (Cb.out W hSw.1);have HSW:=Hd hSw.1;clear hD hSw;simp only[Yc];go_simp;go_wp2_with (go_at_call 73;refine C.out.mono ?_;rintro e w5 ⟨rfl,hx⟩)
          exact hK.out _ _ w5 rfl hx rfl
        ·
          have h5:vals 5=Yp xb:=by obtain⟨_,_,_,h⟩:=hD (5,36) (by simp);exact h
          clear hD hSw;simp only[Yc,h5]at hK⊢;clear h5;go_simp;exact hK.out _ _ W rfl (Fl _) rfl
        ·
          have h5:vals 5=Yp xb:=by obtain⟨_,_,_,h⟩:=hD (5,36) (by simp);exact h
          clear hD hSw;simp only[Yc,h5]at hK⊢;clear h5;go_simp;exact hK.out _ _ W rfl (Fl _) rfl
        ·
          have h6:vals 6=.string (xb.getD ⟨#[]⟩):=by obtain⟨_,_,_,h⟩:=hD (6,37) (by simp);exact h
          have h7:vals 7=.bool xb.isSome:=by obtain⟨_,_,_,h⟩:=hD (7,38) (by simp);exact h
          clear hD hSw;simp only[Yc,h6,h7]at hK⊢;clear h6 h7;go_simp;go_wp2_with (go_at_call 72;refine (Rv _ _ W).mono ?_;rintro e w5 ⟨rfl,hx⟩)
          exact hK.out _ _ w5 rfl hx rfl
        ·
          have C:=Hd (Cr.out W hSw.1);have HSW:=Hd hSw.1;clear hD hSw;simp only[Yc];go_simp;go_wp2_with (go_at_call 74;refine C.out.mono ?_;rintro e w5 ⟨rfl,hx⟩)
          exact hK.out _ _ w5 rfl hx rfl
        ·
          have h10:vals 10=Yp xr:=by obtain⟨_,_,_,h⟩:=hD (10,41) (by simp);exact h
          clear hD hSw;simp only[Yc,h10]at hK⊢;clear h10;go_simp;exact hK.out _ _ W rfl (Fl _) rfl
        ·
          have h10:vals 10=Yp xr:=by obtain⟨_,_,_,h⟩:=hD (10,41) (by simp);exact h
          clear hD hSw;simp only[Yc,h10]at hK⊢;clear h10;go_simp;exact hK.out _ _ W rfl (Fl _) rfl
        ·
          have h11:vals 11=.string (xr.getD ⟨#[]⟩):=by obtain⟨_,_,_,h⟩:=hD (11,42) (by simp);exact h
          have h12:vals 12=.bool xr.isSome:=by obtain⟨_,_,_,h⟩:=hD (12,43) (by simp);exact h
          clear hD hSw;simp only[Yc,h11,h12]at hK⊢;clear h11 h12;go_simp;go_wp2_with (go_at_call 72;refine (Rv _ _ W).mono ?_;rintro e w5 ⟨rfl,hx⟩)
          exact hK.out _ _ w5 rfl hx rfl
        ·
          have C:=Hd (Cp.out W hSw.1);have HSW:=Hd hSw.1;clear hD hSw;simp only[Yc];go_simp;go_wp2_with (go_at_call 75;refine C.out.mono ?_;rintro e w5 ⟨rfl,hx⟩)
          exact hK.out _ _ w5 rfl hx rfl
        ·
          have h15:vals 15=Yp xp:=by obtain⟨_,_,_,h⟩:=hD (15,46) (by simp);exact h
          clear hD hSw;simp only[Yc,h15]at hK⊢;clear h15;go_simp;exact hK.out _ _ W rfl (Fl _) rfl
        ·
          have h15:vals 15=Yp xp:=by obtain⟨_,_,_,h⟩:=hD (15,46) (by simp);exact h
          clear hD hSw;simp only[Yc,h15]at hK⊢;clear h15;go_simp;exact hK.out _ _ W rfl (Fl _) rfl
        ·
          have h16:vals 16=.string (xp.getD ⟨#[]⟩):=by obtain⟨_,_,_,h⟩:=hD (16,47) (by simp);exact h
          have h17:vals 17=.bool xp.isSome:=by obtain⟨_,_,_,h⟩:=hD (17,48) (by simp);exact h
          clear hD hSw;simp only[Yc,h16,h17]at hK⊢;clear h16 h17;go_simp;go_wp2_with (go_at_call 72;refine (Rv _ _ W).mono ?_;rintro e w5 ⟨rfl,hx⟩)
          exact hK.out _ _ w5 rfl hx rfl
        ·
          have C:=Hd (Ct.out W hSw.1);have HSW:=Hd hSw.1;clear hD hSw;simp only[Yc];go_simp;go_wp2_with (go_at_call 76;refine C.out.mono ?_;rintro e w5 ⟨rfl,hx⟩)
          exact hK.out _ _ w5 rfl hx rfl
        ·
          have h20:vals 20=Yp xt:=by obtain⟨_,_,_,h⟩:=hD (20,51) (by simp);exact h
          clear hD hSw;simp only[Yc,h20]at hK⊢;clear h20;go_simp;exact hK.out _ _ W rfl (Fl _) rfl
        ·
          have h20:vals 20=Yp xt:=by obtain⟨_,_,_,h⟩:=hD (20,51) (by simp);exact h
          clear hD hSw;simp only[Yc,h20]at hK⊢;clear h20;go_simp;exact hK.out _ _ W rfl (Fl _) rfl
        ·
          have h21:vals 21=.string (xt.getD ⟨#[]⟩):=by obtain⟨_,_,_,h⟩:=hD (21,52) (by simp);exact h
          have h22:vals 22=.bool xt.isSome:=by obtain⟨_,_,_,h⟩:=hD (22,53) (by simp);exact h
          clear hD hSw;simp only[Yc,h21,h22]at hK⊢;clear h21 h22;go_simp;go_wp2_with (go_at_call 72;refine (Rv _ _ W).mono ?_;rintro e w5 ⟨rfl,hx⟩)
          exact hK.out _ _ w5 rfl hx rfl
        ·
          have C:=Hd (Cf.out W hSw.1);have HSW:=Hd hSw.1;clear hD hSw;simp only[Yc];go_simp;go_wp2_with (go_at_call 77;refine C.out.mono ?_;rintro e w5 ⟨rfl,hx⟩)
          exact hK.out _ _ w5 rfl hx rfl
        ·
          have h25:vals 25=Yp xf:=by obtain⟨_,_,_,h⟩:=hD (25,56) (by simp);exact h
          clear hD hSw;simp only[Yc,h25]at hK⊢;clear h25;go_simp;exact hK.out _ _ W rfl (Fl _) rfl
        ·
          have h25:vals 25=Yp xf:=by obtain⟨_,_,_,h⟩:=hD (25,56) (by simp);exact h
          clear hD hSw;simp only[Yc,h25]at hK⊢;clear h25;go_simp;exact hK.out _ _ W rfl (Fl _) rfl
        ·
          have h26:vals 26=.string (xf.getD ⟨#[]⟩):=by obtain⟨_,_,_,h⟩:=hD (26,57) (by simp);exact h
          have h27:vals 27=.bool xf.isSome:=by obtain⟨_,_,_,h⟩:=hD (27,58) (by simp);exact h
          clear hD hSw;simp only[Yc,h26,h27]at hK⊢;clear h26 h27;go_simp;go_wp2_with (go_at_call 72;refine (Rv _ _ W).mono ?_;rintro e w5 ⟨rfl,hx⟩)
          exact hK.out _ _ w5 rfl hx rfl
        ·
          have C:=Hd (Cs.out W hSw.1);have HSW:=Hd hSw.1;clear hD hSw;simp only[Yc];go_simp;go_wp2_with (go_at_call 78;refine C.out.mono ?_;rintro e w5 ⟨rfl,hx⟩)
          exact hK.out _ _ w5 rfl hx rfl
        ·
          have C:=Hd (Cc.out W);have HSW:=Hd hSw.1;clear hD hSw;simp only[Yc];go_simp;go_wp2_with (go_at_call 79;refine C.out.mono ?_;rintro e w5 ⟨rfl,hx⟩)
          exact hK.out _ _ w5 rfl hx rfl
        ·
          obtain⟨_,_,_,AF,nF,cF,h1,_⟩:∃ (us:List Value) (lo hi:Nat),∃ A n c,vals 1=.slice A n c/\w3.heap.size<=lo/\strs.R W (λj=>lo<=j/\j<hi) fts [vals 1]:=hD (1,32) (by simp);obtain⟨_,_,_,AP,nP,cP,h3,_⟩:∃ (us:List Value) (lo hi:Nat),∃ A n c,vals 3=.slice A n c/\w3.heap.size<=lo/\strs.R W (λj=>lo<=j/\j<hi) pts [vals 3]:=hD (3,34) (by simp);have h8:vals 8=.agg #[.string (xb.getD ⟨#[]⟩),.bool xb.isSome]:=by obtain⟨_,_,_,h⟩:=hD (8,39) (by simp);exact h
          have h13:vals 13=.agg #[.string (xr.getD ⟨#[]⟩),.bool xr.isSome]:=by obtain⟨_,_,_,h⟩:=hD (13,44) (by simp);exact h
          have h18:vals 18=.agg #[.string (xp.getD ⟨#[]⟩),.bool xp.isSome]:=by obtain⟨_,_,_,h⟩:=hD (18,49) (by simp);exact h
          have h23:vals 23=.agg #[.string (xt.getD ⟨#[]⟩),.bool xt.isSome]:=by obtain⟨_,_,_,h⟩:=hD (23,54) (by simp);exact h
          have h28:vals 28=.agg #[.string (xf.getD ⟨#[]⟩),.bool xf.isSome]:=by obtain⟨_,_,_,h⟩:=hD (28,59) (by simp);exact h
          have h30:vals 30=.string st:=by obtain⟨_,_,_,h⟩:=hD (30,61) (by simp);exact h
          have h33:vals 33=.string cn:=by obtain⟨_,_,_,h⟩:=hD (33,64) (by simp);exact h
          clear hD hSw;simp only[Yc,Act.put,Sa,Sb1,Sc,h1,h3,h8,h13,h18,h23,h28,h30,h33]at hK⊢;have H13:=Hd (Ai1 h1 h3);clear h1 h3 h8 h13 h18 h23 h28 h30 h33;go_simp;exact hK.out (.agg #[.slice AF nF cF,.slice AP nP cP,.string (xb.getD ⟨#[]⟩),.bool xb.isSome,.string (xr.getD ⟨#[]⟩),.bool xr.isSome,.string (xp.getD ⟨#[]⟩),.bool xp.isSome,.string (xt.getD ⟨#[]⟩),.bool xt.isSome,.string (xf.getD ⟨#[]⟩),.bool xf.isSome,.bool false,.slice none 0 0,.slice none 0 0,.string st,.string cn,.string ⟨#[]⟩,.string ⟨#[]⟩,.string ⟨#[]⟩]) _ W rfl (Fl _) (show ∃ BF mF kF BP mP kP rest,[vals 1,vals 3,vals 8,vals 13,vals 18,vals 23,vals 28,vals 30,vals 33]=Value.slice BF mF kF :: .slice BP mP kP::rest/\Value.agg #[.slice AF nF cF,.slice AP nP cP,.string (xb.getD ⟨#[]⟩),.bool xb.isSome,.string (xr.getD ⟨#[]⟩),.bool xr.isSome,.string (xp.getD ⟨#[]⟩),.bool xp.isSome,.string (xt.getD ⟨#[]⟩),.bool xt.isSome,.string (xf.getD ⟨#[]⟩),.bool xf.isSome,.bool false,.slice none 0 0,.slice none 0 0,.string st,.string cn,.string ⟨#[]⟩,.string ⟨#[]⟩,.string ⟨#[]⟩]=.agg #[.slice BF mF kF,.slice BP mP kP,.string (xb.getD ⟨#[]⟩),.bool xb.isSome,.string (xr.getD ⟨#[]⟩),.bool xr.isSome,.string (xp.getD ⟨#[]⟩),.bool xp.isSome,.string (xt.getD ⟨#[]⟩),.bool xt.isSome,.string (xf.getD ⟨#[]⟩),.bool xf.isSome,.bool false,.slice none 0 0,.slice none 0 0,.string st,.string cn,.string ⟨#[]⟩,.string ⟨#[]⟩,.string ⟨#[]⟩] from⟨AF,nF,cF,AP,nP,cP,_,by rw[H13.out.1,H13.out.2],rfl⟩)
        ·
          have HSW:=Hd hSw.1;clear hD hSw;simp only[Yc];go_simp;exact hK.out _ _ _ rfl ((Fl _).alloc _) ⟨_,rfl,HSW.out.size,Nl _,by rw[Za];exact Nat.lt_succ_self _,alloc_at _ _⟩
      · obtain⟨AF,nF,cF,AP,nP,cP,rest,hus,h34⟩:∃ AF nF cF AP nP cP rest,[vals 1,vals 3,vals 8,vals 13,vals 18,vals 23,vals 28,vals 30,vals 33]=Value.slice AF nF cF :: .slice AP nP cP::rest/\vals 34=.agg #[.slice AF nF cF,.slice AP nP cP,.string (xb.getD ⟨#[]⟩),.bool xb.isSome,.string (xr.getD ⟨#[]⟩),.bool xr.isSome,.string (xp.getD ⟨#[]⟩),.bool xp.isSome,.string (xt.getD ⟨#[]⟩),.bool xt.isSome,.string (xf.getD ⟨#[]⟩),.bool xf.isSome,.bool false,.slice none 0 0,.slice none 0 0,.string st,.string cn,.string ⟨#[]⟩,.string ⟨#[]⟩,.string ⟨#[]⟩]:=hv (34,65,[(1,32),(3,34),(8,39),(13,44),(18,49),(23,54),(28,59),(30,61),(33,64)]) (by simp)
        obtain⟨e1,e3⟩:vals 1=.slice AF nF cF/\vals 3=.slice AP nP cP:=by simp only[List.cons.injEq]at hus;exact⟨hus.1,hus.2.1⟩
        obtain⟨_,_,_,-,hw1,r1⟩:∃ A n c,vals 1=.slice A n c/\w3.heap.size<=lo 1/\strs.R W (λj=>lo 1<=j/\j<hi 1) fts [vals 1]:=hv (1,32,[]) (by simp);obtain⟨_,_,_,-,hw3,r3⟩:∃ A n c,vals 3=.slice A n c/\w3.heap.size<=lo 3/\strs.R W (λj=>lo 3<=j/\j<hi 3) pts [vals 3]:=hv (3,34,[]) (by simp);obtain⟨gd,h35,hgw,hgl,hgh,hgc⟩:∃ gd,vals 35=.pointer (some ⟨gd,0,none⟩)/\w3.heap.size<=gd/\lo 35<=gd/\gd<hi 35/\W.heap[gd]?=some (.cells #[.slice none 0 0,.slice none 0 0,.string ⟨#[]⟩,.bool false,.string ⟨#[]⟩,.bool false,.string ⟨#[]⟩,.bool false,.string ⟨#[]⟩,.bool false,.string ⟨#[]⟩,.bool false,.bool false,.slice none 0 0,.slice none 0 0,.string ⟨#[]⟩,.string ⟨#[]⟩,.string ⟨#[]⟩,.string ⟨#[]⟩,.string ⟨#[]⟩] Tb (0,0)):=hv (35,11,[]) (by simp);have d1:hi 35<=lo 1\/hi 1<=lo 35:=hiv (35,11,[]) (by simp) (1,32,[]) (by simp) (by decide);have d3:hi 35<=lo 3\/hi 3<=lo 35:=hiv (35,11,[]) (by simp) (3,34,[]) (by simp) (by decide);rw[e1]at r1;rw[e3]at r3;replace r1:strs.R W (λj=>w3.heap.size<=j/\j≠gd) fts [.slice AF nF cF]:=strs.mono (λk _ h=>⟨Om,Om⟩) r1;replace r3:strs.R W (λj=>w3.heap.size<=j/\j≠gd) pts [.slice AP nP cP]:=strs.mono (λk _ h=>⟨Om,Om⟩) r3;simp only[Yc,List.map_cons,List.map_nil,Act.put,Sa,Sb1,Sc,h34,h35];clear hv hiv h34 h35 hus e1 e3 d1 d3 hw1 hw3 hgl hgh rest;generalize vals 1=x1 at *;generalize vals 3=x3 at *;generalize vals 5=x5 at *;generalize vals 6=x6 at *;generalize vals 7=x7 at *;generalize vals 8=x8 at *;generalize vals 10=x10 at *;generalize vals 11=x11 at *;generalize vals 12=x12 at *;generalize vals 13=x13 at *;generalize vals 15=x15 at *;generalize vals 16=x16 at *;generalize vals 17=x17 at *;generalize vals 18=x18 at *;generalize vals 20=x20 at *;generalize vals 21=x21 at *;generalize vals 22=x22 at *;generalize vals 23=x23 at *;generalize vals 25=x25 at *;generalize vals 26=x26 at *;generalize vals 27=x27 at *;generalize vals 28=x28 at *;generalize vals 30=x30 at *;generalize vals 33=x33 at *;clear vals lo hi;have HR8:=Hd (Ai1 r1 r3);have HG8:=Hd (Ai1 hgw hgc);have HX8:=Hd hSw.1;clear r1 r3 hx;clear hgw hgc;refine WZ.last rfl Kr Kr (λK hK=>?_);refine Br Rf Rf _ _ _ Rf gd #[.slice AF nF cF,.slice AP nP cP,.string (xb.getD ⟨#[]⟩),.bool xb.isSome,.string (xr.getD ⟨#[]⟩),.bool xr.isSome,.string (xp.getD ⟨#[]⟩),.bool xp.isSome,.string (xt.getD ⟨#[]⟩),.bool xt.isSome,.string (xf.getD ⟨#[]⟩),.bool xf.isSome,.bool false,.slice none 0 0,.slice none 0 0,.string st,.string cn,.string ⟨#[]⟩,.string ⟨#[]⟩,.string ⟨#[]⟩] _ _ HG8.out.2 Rf Rf Rf Kr (all_oneCell_toArray (Zfi _ _ _ _ _ _ _ _ _ _ _ _ _ _ _ _ _ _ _ _ _ _ _ _ rfl rfl)) ?_;intro w4 hc4 hf4;refine hK.out _ _ ?_;clear hK K;refine⟨rfl,?_⟩;have X4:Zf w3 w4:=HX8.out.trans hf4 (λk hk q=>by have:=HG8.out.1;omega);have R4:strs.R w4 (λj=>w3.heap.size<=j/\j≠gd) fts [.slice AF nF cF]/\strs.R w4 (λj=>w3.heap.size<=j/\j≠gd) pts [.slice AP nP cP]:=⟨strs.keep HR8.out.1 hf4 (λ_ _ q e=>q.2 e),strs.keep HR8.out.2 hf4 (λ_ _ q e=>q.2 e)⟩;have H4:=Hd (Ai1 X4 (Ai1 hc4 (Ai1 HG8.out.1 R4)));obtain⟨b0,b1,b2,b3,b4,b5,b6,b7,b8,lb⟩:=HSS.out w4 X4;clear X4 R4 hc4 hf4 HX8 HG8 HR8 hS hSw;go_step;go_step;refine wp_seq_k λK hK=>?_
        go_cut [12] from 66 to 80 (λv12 wr=>∃ vp,v12=.pointer vp/\Hid (∃ At nt ct Ay ny cy,wr.heap[gd]?=some (.cells #[.slice AF nF cF,.slice AP nP cP,.string (xb.getD ⟨#[]⟩),.bool xb.isSome,.string (xr.getD ⟨#[]⟩),.bool xr.isSome,.string (xp.getD ⟨#[]⟩),.bool xp.isSome,.string (xt.getD ⟨#[]⟩),.bool xt.isSome,.string (xf.getD ⟨#[]⟩),.bool xf.isSome,.bool ex.isSome,.slice At nt ct,.slice Ay ny cy,.string st,.string cn,.string ⟨#[]⟩,.string ⟨#[]⟩,.string ⟨#[]⟩] Tb (0,0))/\strs.R wr (λj=>w4.heap.size<=j) ((ex.map (·.1)).getD []) [.slice At nt ct]/\strs.R wr (λj=>w4.heap.size<=j) ((ex.map (·.2)).getD []) [.slice Ay ny cy]/\Fr (λk=>k=gd) w4 wr))
        case first =>
          go_upto_region 10 with (first
            | (go_at_call 80;refine (CE.out _ H4.out.1).mono ?_;rintro e w5 ⟨ve,rfl,hE,hx5⟩;have HE:=Hd (Ai1 hE hx5);clear hE hx5)
            | fail)
          clear b0 b1 b2 b3 b4 b5 b6 b7 b8 lb;have hg5:=HE.out.2.heap H4.out.2.1 id;have F45:Fr (λk=>k=gd) w4 w5:=HE.out.2.mono (λ_ _ e=>e.elim);rcases ex with _|⟨ta,ty⟩
          · have hE:ve=.pointer none:=HE.out.1
            subst hE;go_wp2_with fail
            go_meet
            case rel=>exact⟨_,rfl,_,_,_,_,_,_,hg5,Nj,Nj,F45⟩
          · obtain⟨ge,v1,v2,rfl,e1,e2,hge,r1,r2⟩:=HE.out.1
            obtain⟨Aa,ca,rfl⟩:=Yq r1;obtain⟨Ab,cb,rfl⟩:=Yq r2;have hgl:gd<w4.heap.size:=(Gs1.1 H4.out.2.1).1;have hne:¬ ge=gd:=Om;have HR5:=Hd (Ai1 r1 (Ai1 r2 F45));clear r1 r2 F45;go_upto_region 11 with fail
            obtain⟨TG,hTG⟩:∃ TG:List Value,TG=[.slice AF nF cF,.slice AP nP cP,.string (xb.getD ⟨#[]⟩),.bool xb.isSome,.string (xr.getD ⟨#[]⟩),.bool xr.isSome,.string (xp.getD ⟨#[]⟩),.bool xp.isSome,.string (xt.getD ⟨#[]⟩),.bool xt.isSome,.string (xf.getD ⟨#[]⟩),.bool xf.isSome,.bool true,.slice Aa ta.length ca,.slice Ab ty.length cb,.string st,.string cn,.string ⟨#[]⟩,.string ⟨#[]⟩,.string ⟨#[]⟩]:=⟨_,rfl⟩;have t12:TG[12]?=some (.bool true):=by rw[hTG];rfl
            have t13:TG[13]?=some (.slice Aa ta.length ca):=by rw[hTG];rfl
            have t14:TG[14]?=some (.slice Ab ty.length cb):=by rw[hTG];rfl
            have TGl:TG.length=20:=by rw[hTG];rfl
            have HSR:Hid (Hh gd Tb TG [12,13,14] w5.drew/\w5.drew.cell? ⟨ge,0,none⟩=some (.slice Aa ta.length ca)/\w5.drew.cell? ⟨ge,1,none⟩=some (.slice Ab ty.length cb)/\ge<w5.drew.heap.size):=⟨⟨_,hg5,by rw[hTG];rfl,λj hj=>by
              rw[hTG];simp only[List.mem_cons,List.mem_nil_iff,or_false,not_or]at hj
              rcases j with _|_|_|_|_|_|_|_|_|_|_|_|_|_|_|_|_|_|_|_|j<;>first|rfl|omega⟩,(Fe w5).drew.cell e1 id,(Fe w5).drew.cell e2 id,lt_of_cell e1⟩
            have HRD:Hid (∀ W W',Fr (λk=>k=gd) W W'->(W.cell? ⟨ge,0,none⟩=some (.slice Aa ta.length ca)/\W.cell? ⟨ge,1,none⟩=some (.slice Ab ty.length cb)/\ge<W.heap.size)->W'.cell? ⟨ge,0,none⟩=some (.slice Aa ta.length ca)/\W'.cell? ⟨ge,1,none⟩=some (.slice Ab ty.length cb)/\ge<W'.heap.size):=λW W' f h=>⟨f.cell h.1 hne,f.cell h.2.1 hne,Nat.lt_of_lt_of_le h.2.2 f.size⟩
            have HTG:=Hd hTG;clear hTG hg5 e1 e2;refine Pr ?_;refine Ya 13 14 #[false,false,false,false,false,false,false,false,false,false,false,false,false,false] (λW=>Hh gd Tb TG [12,13,14] W/\W.cell? ⟨ge,0,none⟩=some (.slice Aa ta.length ca)/\W.cell? ⟨ge,1,none⟩=some (.slice Ab ty.length cb)/\ge<W.heap.size) mixed rfl rfl (HSR.out) (λhS=>?_)
            refine WZ.flowO (E:=Sr gd Tb TG) Sr.refl (λ_ _ _=>Sr.trans) 1 13 [(0,some 70,[]),(1,some 71,[(0,some 70)]),(2,some 72,[(1,some 71)]),(3,some 73,[(2,some 72)]),(4,some 74,[]),(5,some 75,[(4,some 74)]),(6,some 76,[(5,some 75)]),(7,some 77,[(6,some 76)]),(8,some 78,[]),(9,none,[(8,some 78)]),(10,some 79,[]),(11,none,[(10,some 79),(3,some 73)]),(12,some 80,[])]
              [(0,λv _=>v=.pointer (some ⟨ge,0,none⟩)),(1,λv _=>v=.pointer (some ⟨ge,0,none⟩)),(2,λv _=>v=.pointer (some ⟨ge,0,none⟩)),(3,λv _=>v=.slice Aa ta.length ca),(4,λv _=>v=.pointer (some ⟨ge,0,none⟩)),(5,λv _=>v=.pointer (some ⟨ge,0,none⟩)),(6,λv _=>v=.pointer (some ⟨ge,1,none⟩)),(7,λv _=>v=.slice Ab ty.length cb),(8,λv _=>v=.pointer (some ⟨gd,12,none⟩)),(9,λ_ W=>Dn gd Tb TG 12 W),(10,λv _=>v=.pointer (some ⟨gd,13,none⟩)),(11,λ_ W=>Dn gd Tb TG 13 W),(12,λv _=>v=.pointer (some ⟨gd,14,none⟩))]
              Kr rfl (λW W' h e=>⟨h.1.keep e,HRD.out W W' e.1 h.2⟩) ?_ (by assumption) ?_ (λvals W hx hSw hv=>?_)
            · simp only[List.forall_mem_cons]
              exact⟨λv W W' e h=>h,λv W W' e h=>h,λv W W' e h=>h,λv W W' e h=>h,λv W W' e h=>h,λv W W' e h=>h,λv W W' e h=>h,λv W W' e h=>h,λv W W' e h=>h,λv W W' e h=>Dn.keep h e,λv W W' e h=>h,λv W W' e h=>Dn.keep h e,λv W W' e h=>h,λ_ h=>nomatch h⟩
            · simp only[List.forall_mem_cons]
              refine⟨⟨_,rfl,λvals W hSw hD Q' K hK=>?_⟩,⟨_,rfl,λvals W hSw hD Q' K hK=>?_⟩,⟨_,rfl,λvals W hSw hD Q' K hK=>?_⟩,⟨_,rfl,λvals W hSw hD Q' K hK=>?_⟩,⟨_,rfl,λvals W hSw hD Q' K hK=>?_⟩,⟨_,rfl,λvals W hSw hD Q' K hK=>?_⟩,⟨_,rfl,λvals W hSw hD Q' K hK=>?_⟩,⟨_,rfl,λvals W hSw hD Q' K hK=>?_⟩,⟨_,rfl,λvals W hSw hD Q' K hK=>?_⟩,⟨_,rfl,λvals W hSw hD Q' K hK=>?_⟩,⟨_,rfl,λvals W hSw hD Q' K hK=>?_⟩,⟨_,rfl,λvals W hSw hD Q' K hK=>?_⟩,⟨_,rfl,λvals W hSw hD Q' K hK=>?_⟩,λ_ h=>nomatch h⟩
              · obtain⟨hTw,e0,e1,le⟩:=hSw
                clear hD;simp only[Ve]at hK⊢;clear hTw;go_simp;exact hK.out _ _ W rfl (Sr.refl W) rfl
              · obtain⟨hTw,e0,e1,le⟩:=hSw
                have h0:vals 0=.pointer (some ⟨ge,0,none⟩):=hD (0,some 70) (by simp);clear hD;simp only[Ve,h0]at hK⊢;clear h0;clear hTw;go_simp;exact hK.out _ _ W rfl (Sr.refl W) rfl
              · obtain⟨hTw,e0,e1,le⟩:=hSw
                have h1:vals 1=.pointer (some ⟨ge,0,none⟩):=hD (1,some 71) (by simp);clear hD;simp only[Ve,h1]at hK⊢;clear h1;clear hTw;go_simp;exact hK.out _ _ W rfl (Sr.refl W) rfl
              · obtain⟨hTw,e0,e1,le⟩:=hSw
                have h2:vals 2=.pointer (some ⟨ge,0,none⟩):=hD (2,some 72) (by simp);clear hD;simp only[Ve,h2]at hK⊢;clear h2;clear hTw;go_simp;exact hK.out _ _ W rfl (Sr.refl W) rfl
              · obtain⟨hTw,e0,e1,le⟩:=hSw
                clear hD;simp only[Ve]at hK⊢;clear hTw;go_simp;exact hK.out _ _ W rfl (Sr.refl W) rfl
              · obtain⟨hTw,e0,e1,le⟩:=hSw
                have h4:vals 4=.pointer (some ⟨ge,0,none⟩):=hD (4,some 74) (by simp);clear hD;simp only[Ve,h4]at hK⊢;clear h4;clear hTw;go_simp;exact hK.out _ _ W rfl (Sr.refl W) rfl
              · obtain⟨hTw,e0,e1,le⟩:=hSw
                have h5:vals 5=.pointer (some ⟨ge,0,none⟩):=hD (5,some 75) (by simp);clear hD;simp only[Ve,h5]at hK⊢;clear h5;clear hTw;go_simp;exact hK.out _ _ W rfl (Sr.refl W) rfl
              · obtain⟨hTw,e0,e1,le⟩:=hSw
                have h6:vals 6=.pointer (some ⟨ge,1,none⟩):=hD (6,some 76) (by simp);clear hD;simp only[Ve,h6]at hK⊢;clear h6;clear hTw;go_simp;exact hK.out _ _ W rfl (Sr.refl W) rfl
              · obtain⟨hTw,e0,e1,le⟩:=hSw
                clear hD;simp only[Ve]at hK⊢;clear hTw;go_simp;exact hK.out _ _ W rfl (Sr.refl W) rfl
              · obtain⟨hTw,e0,e1,le⟩:=hSw
                have h8:vals 8=.pointer (some ⟨gd,12,none⟩):=hD (8,some 78) (by simp);clear hD;simp only[Ve,h8]at hK⊢;clear h8;obtain⟨⟨xz,z⟩,pf,lg⟩:=hTw.cell 12 (by rw[TGl];decide);have HTw:=Hd hTw;clear hTw;go_simp;exact hK.out undef _ _ rfl (Sr.set 12 _ t12) (Hh.set HTw.out 12 _ t12)
              · obtain⟨hTw,e0,e1,le⟩:=hSw
                clear hD;simp only[Ve]at hK⊢;clear hTw;go_simp;exact hK.out _ _ W rfl (Sr.refl W) rfl
              · obtain⟨hTw,e0,e1,le⟩:=hSw
                have h10:vals 10=.pointer (some ⟨gd,13,none⟩):=hD (10,some 79) (by simp);have h3:vals 3=.slice Aa ta.length ca:=hD (3,some 73) (by simp);clear hD;simp only[Ve,h10,h3]at hK⊢;clear h10 h3;obtain⟨⟨xz,z⟩,pf,lg⟩:=hTw.cell 13 (by rw[TGl];decide);have HTw:=Hd hTw;clear hTw;go_simp;exact hK.out undef _ _ rfl (Sr.set 13 _ t13) (Hh.set HTw.out 13 _ t13)
              · obtain⟨hTw,e0,e1,le⟩:=hSw
                clear hD;simp only[Ve]at hK⊢;clear hTw;go_simp;exact hK.out _ _ W rfl (Sr.refl W) rfl
            · have HSw:=Hd hSw
              have HXW:=Hd hx.1;have dn12:Dn gd Tb TG 12 W:=hv (9,none,[(8,some 78)]) (by simp);have dn13:Dn gd Tb TG 13 W:=hv (11,none,[(10,some 79),(3,some 73)]) (by simp);have h0:vals 0=.pointer (some ⟨ge,0,none⟩):=hv (0,some 70,[]) (by simp);have h1:vals 1=.pointer (some ⟨ge,0,none⟩):=hv (1,some 71,[(0,some 70)]) (by simp);have h2:vals 2=.pointer (some ⟨ge,0,none⟩):=hv (2,some 72,[(1,some 71)]) (by simp);have h3:vals 3=.slice Aa ta.length ca:=hv (3,some 73,[(2,some 72)]) (by simp);have h4:vals 4=.pointer (some ⟨ge,0,none⟩):=hv (4,some 74,[]) (by simp);have h5:vals 5=.pointer (some ⟨ge,0,none⟩):=hv (5,some 75,[(4,some 74)]) (by simp);have h6:vals 6=.pointer (some ⟨ge,1,none⟩):=hv (6,some 76,[(5,some 75)]) (by simp);have h7:vals 7=.slice Ab ty.length cb:=hv (7,some 77,[(6,some 76)]) (by simp);have h8:vals 8=.pointer (some ⟨gd,12,none⟩):=hv (8,some 78,[]) (by simp);have h10:vals 10=.pointer (some ⟨gd,13,none⟩):=hv (10,some 79,[]) (by simp);have h12:vals 12=.pointer (some ⟨gd,14,none⟩):=hv (12,some 80,[]) (by simp);clear hv;simp only[Ve,List.map_cons,List.map_nil,Act.put,Sa,Sb1,Sc,h0,h1,h2,h3,h4,h5,h6,h7,h8,h10,h12];clear h0 h1 h2 h3 h4 h5 h6 h7 h8 h10 h12;clear vals;have HDN:=Hd (Ai1 dn12 dn13);clear dn12 dn13;obtain⟨⟨xz,z⟩,pf,lg⟩:=hSw.1.cell 14 (by rw[TGl];decide);clear hSw hx;refine WZ.last rfl Kr Kr (λK hK=>?_);go_simp;refine hK.out _ _ ?_;clear hK K;refine⟨rfl,?_⟩;have EL:Sr gd Tb TG W (W.setCell ⟨gd,14,none⟩ (.slice Ab ty.length cb)):=Sr.set 14 _ t14
              have GL:(W.setCell ⟨gd,14,none⟩ (.slice Ab ty.length cb)).heap[gd]?=some (.cells TG.toArray Tb (0,0)):=Hh.fin (HSw.out.1.keep EL) (λj hj=>by
                simp only[List.mem_cons,List.mem_nil_iff,or_false]at hj;rcases hj with rfl|rfl|rfl
                · exact HDN.out.1.keep EL
                · exact HDN.out.2.keep EL
                · exact Hh.set HSw.out.1 14 _ t14)
              have HGL:=Hd (Ai1 (HXW.out.then EL.1) GL);clear EL GL HSw HXW HDN z pf lg;generalize World.setCell _ ⟨gd,14,none⟩ _=w6 at *;have hg6:=HGL.out.2;rw[HTG.out]at hg6;have H6:=Hd (Ai1 hg6 (show Fr (λk=>k=gd) w5 w6 from ((Fr.refl (λk=>k=gd) w5).drew).then HGL.out.1));clear hg6 HGL;go_wp2_with fail
              go_meet
              case rel=>exact⟨_,rfl,Aa,_,ca,Ab,_,cb,H6.out.1,strs.keep HR5.out.1 H6.out.2 (λk _ q e=>Om),strs.keep HR5.out.2.1 H6.out.2 (λk _ q e=>Om),HR5.out.2.2.then H6.out.2⟩
        case rest =>
        clear b0 b1 b2 b3 b4 b5 b6 b7 b8 lb;obtain⟨vp,rfl,HE⟩:=hcut;generalize wc=w6 at *;obtain⟨At,nt,ct,Ay,ny,cy,hg6,r6,r7,F46⟩:=HE.out;have X6:Zf w3 w6:=H4.out.1.trans F46 (λk hk e=>by have:=H4.out.2.2.1;omega);obtain⟨b0,b1,b2,b3,b4,b5,b6,b7,b8,lb⟩:=HSS.out w6 X6;have hgl:gd<w4.heap.size:=(Gs1.1 H4.out.2.1).1;have HQ6:=Hd (Ai1 hg6 (Ai1 r6 (Ai1 r7 (Ai1 (strs.keep H4.out.2.2.2.1 F46 (λ_ _ q e=>q.2 e)) (Ai1 (strs.keep H4.out.2.2.2.2 F46 (λ_ _ q e=>q.2 e)) X6)))));have HL6:=Hd (Ai1 H4.out.2.2.1 (Ai1 hgl F46.size));clear HE hg6 r6 r7 F46 X6 H4 hgl
        go_upto_region 13 with (first
          | (go_at_call 81;refine (CD.out _ HQ6.out.2.2.2.2.2).mono ?_;rintro e w7 ⟨⟨vd,rfl,At2,nt2,ct2,Ay2,ny2,cy2,rfl⟩,hx7⟩;have HX7:=Hd hx7;clear hx7)
          | fail)
        clear b0 b1 b2 b3 b4 b5 b6 b7 b8 lb;obtain⟨gt,hgt⟩:∃ gt,gt=w7.heap.size:=⟨_,rfl⟩;rw[<- hgt];have gt8:=alloc_at' w7 (.cells #[.int .i64 t.id,.int .i64 (t.start:Int),.int .i64 (t.fin:Int),.string t.surf,.string (Ye t.cls),.slice At2 nt2 ct2,.string (xb.getD ⟨#[]⟩),.string (xr.getD ⟨#[]⟩),.string (xp.getD ⟨#[]⟩),.slice Ay2 ny2 cy2] TTD) hgt;have hgtl:gt<(w7.alloc (.cells #[.int .i64 t.id,.int .i64 (t.start:Int),.int .i64 (t.fin:Int),.string t.surf,.string (Ye t.cls),.slice At2 nt2 ct2,.string (xb.getD ⟨#[]⟩),.string (xr.getD ⟨#[]⟩),.string (xp.getD ⟨#[]⟩),.slice Ay2 ny2 cy2] TTD)).heap.size:=by rw[Za];omega
        have X8:Zf w6 (w7.alloc (.cells #[.int .i64 t.id,.int .i64 (t.start:Int),.int .i64 (t.fin:Int),.string t.surf,.string (Ye t.cls),.slice At2 nt2 ct2,.string (xb.getD ⟨#[]⟩),.string (xr.getD ⟨#[]⟩),.string (xp.getD ⟨#[]⟩),.slice Ay2 ny2 cy2] TTD)):=HX7.out.alloc _;have hne:¬ gt=gd:=by have:=HL6.out;have:=HX7.out.size;omega
        have HX8:=Hd X8;clear X8 HX7 hgt;generalize World.alloc w7 _=w8 at *;have hg8:=HX8.out.heap HQ6.out.1 id;obtain⟨TG,hTG⟩:∃ TG:List Value,TG=[.slice AF nF cF,.slice AP nP cP,.string (xb.getD ⟨#[]⟩),.bool xb.isSome,.string (xr.getD ⟨#[]⟩),.bool xr.isSome,.string (xp.getD ⟨#[]⟩),.bool xp.isSome,.string (xt.getD ⟨#[]⟩),.bool xt.isSome,.string (xf.getD ⟨#[]⟩),.bool xf.isSome,.bool ex.isSome,.slice At nt ct,.slice Ay ny cy,.string st,.string cn,.string (xb.getD ⟨#[]⟩),.string (xr.getD ⟨#[]⟩),.string (xp.getD ⟨#[]⟩)]:=⟨_,rfl⟩;have t17:TG[17]?=some (.string (xb.getD ⟨#[]⟩)):=by rw[hTG];rfl
        have t18:TG[18]?=some (.string (xr.getD ⟨#[]⟩)):=by rw[hTG];rfl
        have t19:TG[19]?=some (.string (xp.getD ⟨#[]⟩)):=by rw[hTG];rfl
        have TGl:TG.length=20:=by rw[hTG];rfl
        have HSR:Hid (Hh gd Tb TG [17,18,19] w8.drew/\w8.drew.cell? ⟨gt,6,none⟩=some (.string (xb.getD ⟨#[]⟩))/\w8.drew.cell? ⟨gt,7,none⟩=some (.string (xr.getD ⟨#[]⟩))/\w8.drew.cell? ⟨gt,8,none⟩=some (.string (xp.getD ⟨#[]⟩))/\gt<w8.drew.heap.size):=⟨⟨_,hg8,by rw[hTG];rfl,λj hj=>by
          rw[hTG];simp only[List.mem_cons,List.mem_nil_iff,or_false,not_or]at hj
          rcases j with _|_|_|_|_|_|_|_|_|_|_|_|_|_|_|_|_|_|_|_|j<;>first|rfl|omega⟩,cell_of gt8 6 _ rfl,cell_of gt8 7 _ rfl,cell_of gt8 8 _ rfl,hgtl⟩
        have HRD:Hid (∀ W W',Fr (λk=>k=gd) W W'->(W.cell? ⟨gt,6,none⟩=some (.string (xb.getD ⟨#[]⟩))/\W.cell? ⟨gt,7,none⟩=some (.string (xr.getD ⟨#[]⟩))/\W.cell? ⟨gt,8,none⟩=some (.string (xp.getD ⟨#[]⟩))/\gt<W.heap.size)->W'.cell? ⟨gt,6,none⟩=some (.string (xb.getD ⟨#[]⟩))/\W'.cell? ⟨gt,7,none⟩=some (.string (xr.getD ⟨#[]⟩))/\W'.cell? ⟨gt,8,none⟩=some (.string (xp.getD ⟨#[]⟩))/\gt<W'.heap.size):=λW W' f h=>⟨f.cell h.1 hne,f.cell h.2.1 hne,f.cell h.2.2.1 hne,Nat.lt_of_lt_of_le h.2.2.2 f.size⟩
        have HTG:=Hd hTG;clear hTG hg8 gt8 hgtl;refine Pr ?_;refine Ya 11 12 #[false,false,false,false,false,false,false,false,false,false,false,false] (λW=>Hh gd Tb TG [17,18,19] W/\W.cell? ⟨gt,6,none⟩=some (.string (xb.getD ⟨#[]⟩))/\W.cell? ⟨gt,7,none⟩=some (.string (xr.getD ⟨#[]⟩))/\W.cell? ⟨gt,8,none⟩=some (.string (xp.getD ⟨#[]⟩))/\gt<W.heap.size) mixed rfl rfl (HSR.out) (λhS=>?_)
        refine WZ.flowO (E:=Sr gd Tb TG) Sr.refl (λ_ _ _=>Sr.trans) 1 11 [(0,some 83,[]),(1,some 84,[(0,some 83)]),(2,some 85,[]),(3,some 86,[(2,some 85)]),(4,some 87,[]),(5,some 88,[(4,some 87)]),(6,some 89,[]),(7,none,[(6,some 89),(1,some 84)]),(8,some 90,[]),(9,none,[(8,some 90),(3,some 86)]),(10,some 91,[])]
          [(0,λv _=>v=.pointer (some ⟨gt,6,none⟩)),(1,λv _=>v=.string (xb.getD ⟨#[]⟩)),(2,λv _=>v=.pointer (some ⟨gt,7,none⟩)),(3,λv _=>v=.string (xr.getD ⟨#[]⟩)),(4,λv _=>v=.pointer (some ⟨gt,8,none⟩)),(5,λv _=>v=.string (xp.getD ⟨#[]⟩)),(6,λv _=>v=.pointer (some ⟨gd,17,none⟩)),(7,λ_ W=>Dn gd Tb TG 17 W),(8,λv _=>v=.pointer (some ⟨gd,18,none⟩)),(9,λ_ W=>Dn gd Tb TG 18 W),(10,λv _=>v=.pointer (some ⟨gd,19,none⟩))]
          Kr rfl (λW W' h e=>⟨h.1.keep e,HRD.out W W' e.1 h.2⟩) ?_ (by assumption) ?_ (λvals W hx hSw hv=>?_)
        · simp only[List.forall_mem_cons]
          exact⟨λv W W' e h=>h,λv W W' e h=>h,λv W W' e h=>h,λv W W' e h=>h,λv W W' e h=>h,λv W W' e h=>h,λv W W' e h=>h,λv W W' e h=>Dn.keep h e,λv W W' e h=>h,λv W W' e h=>Dn.keep h e,λv W W' e h=>h,λ_ h=>nomatch h⟩
        · simp only[List.forall_mem_cons]
          refine⟨⟨_,rfl,λvals W hSw hD Q' K hK=>?_⟩,⟨_,rfl,λvals W hSw hD Q' K hK=>?_⟩,⟨_,rfl,λvals W hSw hD Q' K hK=>?_⟩,⟨_,rfl,λvals W hSw hD Q' K hK=>?_⟩,⟨_,rfl,λvals W hSw hD Q' K hK=>?_⟩,⟨_,rfl,λvals W hSw hD Q' K hK=>?_⟩,⟨_,rfl,λvals W hSw hD Q' K hK=>?_⟩,⟨_,rfl,λvals W hSw hD Q' K hK=>?_⟩,⟨_,rfl,λvals W hSw hD Q' K hK=>?_⟩,⟨_,rfl,λvals W hSw hD Q' K hK=>?_⟩,⟨_,rfl,λvals W hSw hD Q' K hK=>?_⟩,λ_ h=>nomatch h⟩
          · obtain⟨hTw,e0,e1,e2,le⟩:=hSw
            clear hD;simp only[Ve]at hK⊢;clear hTw;go_simp;exact hK.out _ _ W rfl (Sr.refl W) rfl
          · obtain⟨hTw,e0,e1,e2,le⟩:=hSw
            have h0:vals 0=.pointer (some ⟨gt,6,none⟩):=hD (0,some 83) (by simp);clear hD;simp only[Ve,h0]at hK⊢;clear h0;clear hTw;go_simp;exact hK.out _ _ W rfl (Sr.refl W) rfl
          · obtain⟨hTw,e0,e1,e2,le⟩:=hSw
            clear hD;simp only[Ve]at hK⊢;clear hTw;go_simp;exact hK.out _ _ W rfl (Sr.refl W) rfl
          · obtain⟨hTw,e0,e1,e2,le⟩:=hSw
            have h2:vals 2=.pointer (some ⟨gt,7,none⟩):=hD (2,some 85) (by simp);clear hD;simp only[Ve,h2]at hK⊢;clear h2;clear hTw;go_simp;exact hK.out _ _ W rfl (Sr.refl W) rfl
          · obtain⟨hTw,e0,e1,e2,le⟩:=hSw
            clear hD;simp only[Ve]at hK⊢;clear hTw;go_simp;exact hK.out _ _ W rfl (Sr.refl W) rfl
          · obtain⟨hTw,e0,e1,e2,le⟩:=hSw
            have h4:vals 4=.pointer (some ⟨gt,8,none⟩):=hD (4,some 87) (by simp);clear hD;simp only[Ve,h4]at hK⊢;clear h4;clear hTw;go_simp;exact hK.out _ _ W rfl (Sr.refl W) rfl
          · obtain⟨hTw,e0,e1,e2,le⟩:=hSw
            clear hD;simp only[Ve]at hK⊢;clear hTw;go_simp;exact hK.out _ _ W rfl (Sr.refl W) rfl
          · obtain⟨hTw,e0,e1,e2,le⟩:=hSw
            have h6:vals 6=.pointer (some ⟨gd,17,none⟩):=hD (6,some 89) (by simp);have h1:vals 1=.string (xb.getD ⟨#[]⟩):=hD (1,some 84) (by simp);clear hD;simp only[Ve,h6,h1]at hK⊢;clear h6 h1;obtain⟨⟨xz,z⟩,pf,lg⟩:=hTw.cell 17 (by rw[TGl];decide);have HTw:=Hd hTw;clear hTw;go_simp;exact hK.out undef _ _ rfl (Sr.set 17 _ t17) (Hh.set HTw.out 17 _ t17)
          · obtain⟨hTw,e0,e1,e2,le⟩:=hSw
            clear hD;simp only[Ve]at hK⊢;clear hTw;go_simp;exact hK.out _ _ W rfl (Sr.refl W) rfl
          · obtain⟨hTw,e0,e1,e2,le⟩:=hSw
            have h8:vals 8=.pointer (some ⟨gd,18,none⟩):=hD (8,some 90) (by simp);have h3:vals 3=.string (xr.getD ⟨#[]⟩):=hD (3,some 86) (by simp);clear hD;simp only[Ve,h8,h3]at hK⊢;clear h8 h3;obtain⟨⟨xz,z⟩,pf,lg⟩:=hTw.cell 18 (by rw[TGl];decide);have HTw:=Hd hTw;clear hTw;go_simp;exact hK.out undef _ _ rfl (Sr.set 18 _ t18) (Hh.set HTw.out 18 _ t18)
          · obtain⟨hTw,e0,e1,e2,le⟩:=hSw
            clear hD;simp only[Ve]at hK⊢;clear hTw;go_simp;exact hK.out _ _ W rfl (Sr.refl W) rfl
        · have HSw:=Hd hSw
          have HXW:=Hd hx.1;have dn17:Dn gd Tb TG 17 W:=hv (7,none,[(6,some 89),(1,some 84)]) (by simp);have dn18:Dn gd Tb TG 18 W:=hv (9,none,[(8,some 90),(3,some 86)]) (by simp);have h0:vals 0=.pointer (some ⟨gt,6,none⟩):=hv (0,some 83,[]) (by simp);have h1:vals 1=.string (xb.getD ⟨#[]⟩):=hv (1,some 84,[(0,some 83)]) (by simp);have h2:vals 2=.pointer (some ⟨gt,7,none⟩):=hv (2,some 85,[]) (by simp);have h3:vals 3=.string (xr.getD ⟨#[]⟩):=hv (3,some 86,[(2,some 85)]) (by simp);have h4:vals 4=.pointer (some ⟨gt,8,none⟩):=hv (4,some 87,[]) (by simp);have h5:vals 5=.string (xp.getD ⟨#[]⟩):=hv (5,some 88,[(4,some 87)]) (by simp);have h6:vals 6=.pointer (some ⟨gd,17,none⟩):=hv (6,some 89,[]) (by simp);have h8:vals 8=.pointer (some ⟨gd,18,none⟩):=hv (8,some 90,[]) (by simp);have h10:vals 10=.pointer (some ⟨gd,19,none⟩):=hv (10,some 91,[]) (by simp);clear hv;simp only[Ve,List.map_cons,List.map_nil,Act.put,Sa,Sb1,Sc,h0,h1,h2,h3,h4,h5,h6,h8,h10];clear h0 h1 h2 h3 h4 h5 h6 h8 h10;clear vals;have HDN:=Hd (Ai1 dn17 dn18);clear dn17 dn18;obtain⟨⟨xz,z⟩,pf,lg⟩:=hSw.1.cell 19 (by rw[TGl];decide);clear hSw hx;refine WZ.last rfl Kr Kr (λK hK=>?_);go_simp;refine hK.out _ _ ?_;clear hK K;refine⟨rfl,?_⟩;have EL:Sr gd Tb TG W (W.setCell ⟨gd,19,none⟩ (.string (xp.getD ⟨#[]⟩))):=Sr.set 19 _ t19
          have GL:(W.setCell ⟨gd,19,none⟩ (.string (xp.getD ⟨#[]⟩))).heap[gd]?=some (.cells TG.toArray Tb (0,0)):=Hh.fin (HSw.out.1.keep EL) (λj hj=>by
            simp only[List.mem_cons,List.mem_nil_iff,or_false]at hj;rcases hj with rfl|rfl|rfl
            · exact HDN.out.1.keep EL
            · exact HDN.out.2.keep EL
            · exact Hh.set HSw.out.1 19 _ t19)
          have HGL:=Hd (Ai1 (HXW.out.then EL.1) GL);clear EL GL HSw HXW HDN z pf lg;generalize World.setCell _ ⟨gd,19,none⟩ _=w9 at *;have hg9:=HGL.out.2;rw[HTG.out]at hg9;have F89:Fr (λk=>k=gd) w8 w9:=((Fr.refl (λk=>k=gd) w8).drew).then HGL.out.1;have X9:Zf w3 w9:=(Z5 HQ6.out.2.2.2.2.2 HX8.out).trans F89 (λk hk e=>by have:=HL6.out;omega);have kp:∀ {O:Nat->Prop} {xs:List ByteArray} {v:Value},(∀ k,O k->k≠gd)->strs.R w6 O xs [v]->strs.R w9 O xs [v]:=λhO h=>strs.keep (strs.ext h HX8.out) F89 (λk _ q e=>hO k q e)
          have r1:strs.R w9 (λj=>w3.heap.size<=j) fts [.slice AF nF cF]:=strs.mono (λ_ _ h=>h.1) (kp (λk q=>q.2) HQ6.out.2.2.2.1);have r2:strs.R w9 (λj=>w3.heap.size<=j) pts [.slice AP nP cP]:=strs.mono (λ_ _ h=>h.1) (kp (λk q=>q.2) HQ6.out.2.2.2.2.1);have r3:strs.R w9 (λj=>w3.heap.size<=j) ((ex.map (·.1)).getD []) [.slice At nt ct]:=strs.mono (λk _ h=>by have:=HL6.out;omega) (kp (λk q e=>by have:=HL6.out;omega) HQ6.out.2.1);have r4:strs.R w9 (λj=>w3.heap.size<=j) ((ex.map (·.2)).getD []) [.slice Ay ny cy]:=strs.mono (λk _ h=>by have:=HL6.out;omega) (kp (λk q e=>by have:=HL6.out;omega) HQ6.out.2.2.1);have co9:=X9.cell HKB.out.2.1 id;have fo9:=(X9.frozen HKB.out.2.1 id).trans HKB.out.2.2;have lo9:=lt_of_cell co9;have hbo:¬ u.ownBlock=some bo:=λe=>by have:=HL.out _ e;omega
          have hUO:∀ j,w3.heap.size<=j->¬ u.ownBlock=some j:=λj hj e=>by have:=HL.out _ e;omega
          have hw32:w2.heap.size<=w3.heap.size:=HG.out.2.size
          have RD:∀ W,Zf w9 W->tDet.R W (λj=>w2.heap.size<=j/\u.ownBlock≠some j) ⟨fts,pts,xb,xr,xp,xt,xf,ex,st,cn,xb.getD ⟨#[]⟩,xr.getD ⟨#[]⟩,xp.getD ⟨#[]⟩⟩ [.slice AF nF cF,.slice AP nP cP,.string (xb.getD ⟨#[]⟩),.bool xb.isSome,.string (xr.getD ⟨#[]⟩),.bool xr.isSome,.string (xp.getD ⟨#[]⟩),.bool xp.isSome,.string (xt.getD ⟨#[]⟩),.bool xt.isSome,.string (xf.getD ⟨#[]⟩),.bool xf.isSome,.bool ex.isSome,.slice At nt ct,.slice Ay ny cy,.string st,.string cn,.string (xb.getD ⟨#[]⟩),.string (xr.getD ⟨#[]⟩),.string (xp.getD ⟨#[]⟩)]:=λW f =>
            ⟨_,_,_,_,rfl,strs.mono (λk _ h=>⟨Nt hw32 h,hUO k h⟩) (strs.ext r1 f),strs.mono (λk _ h=>⟨Nt hw32 h,hUO k h⟩) (strs.ext r2 f),strs.mono (λk _ h=>⟨Nt hw32 h,hUO k h⟩) (strs.ext r3 f),strs.mono (λk _ h=>⟨Nt hw32 h,hUO k h⟩) (strs.ext r4 f)⟩
          have HRD9:=Hd RD;have HX9:=Hd X9;have HHB:=Hd hbo;clear RD r1 r2 r3 r4 kp X9 F89 hUO hbo HRD HGL HQ6 HX8 hw32;have HRA:Hid (w9.rangeAt gd 0 [.slice AF nF cF,.slice AP nP cP,.string (xb.getD ⟨#[]⟩),.bool xb.isSome,.string (xr.getD ⟨#[]⟩),.bool xr.isSome,.string (xp.getD ⟨#[]⟩),.bool xp.isSome,.string (xt.getD ⟨#[]⟩),.bool xt.isSome,.string (xf.getD ⟨#[]⟩),.bool xf.isSome,.bool ex.isSome,.slice At nt ct,.slice Ay ny cy,.string st,.string cn,.string (xb.getD ⟨#[]⟩),.string (xr.getD ⟨#[]⟩),.string (xp.getD ⟨#[]⟩)]):=λj v hv=>by rw[Nat.zero_add];exact cell_of hg9 j v (by simpa using hv)
          clear hg9
          go_wp2_with (first
            | (refine wpList_load_mid Rf 66 (.tmp 11) Rf gd 0 Rf [.slice AF nF cF,.slice AP nP cP,.string (xb.getD ⟨#[]⟩),.bool xb.isSome,.string (xr.getD ⟨#[]⟩),.bool xr.isSome,.string (xp.getD ⟨#[]⟩),.bool xp.isSome,.string (xt.getD ⟨#[]⟩),.bool xt.isSome,.string (xf.getD ⟨#[]⟩),.bool xf.isSome,.bool ex.isSome,.slice At nt ct,.slice Ay ny cy,.string st,.string cn,.string (xb.getD ⟨#[]⟩),.string (xr.getD ⟨#[]⟩),.string (xp.getD ⟨#[]⟩)] _ HRA.out Tryz.underlying66 rfl Kr ?_;dsimp only[Act.put])
            | (at_builtin;refine RowK.lst (v:=u) rfl _ _ 59 rfl ⟨fts,pts,xb,xr,xp,xt,xf,ex,st,cn,xb.getD ⟨#[]⟩,xr.getD ⟨#[]⟩,xp.getD ⟨#[]⟩⟩ [.slice AF nF cF,.slice AP nP cP,.string (xb.getD ⟨#[]⟩),.bool xb.isSome,.string (xr.getD ⟨#[]⟩),.bool xr.isSome,.string (xp.getD ⟨#[]⟩),.bool xp.isSome,.string (xt.getD ⟨#[]⟩),.bool xt.isSome,.string (xf.getD ⟨#[]⟩),.bool xf.isSome,.bool ex.isSome,.slice At nt ct,.slice Ay ny cy,.string st,.string cn,.string (xb.getD ⟨#[]⟩),.string (xr.getD ⟨#[]⟩),.string (xp.getD ⟨#[]⟩)] 304 ⟨w9.heap.size,0,none⟩ Tryz.underlying59 Zli (by decide) Om rfl rfl ((HG.out.1.ext HX9.out).ext ((Fl _).alloc _)) (by rw[List.length_map,List.length_take];omega) (by have:=HX9.out.size;have:=HG.out.2.size;rw[Za];omega) (Gh (alloc_at _ _)) (HRD9.out _ ((Fl _).alloc _)) ?_;intro v' w10 hR10 hf10 ha10;obtain⟨A',c',hv'⟩:=hR10.own;rw[List.length_append,List.length_map,List.length_take,Nat.min_eq_left (by have:=HN.out;omega)]at hv';simp only[List.length_singleton]at hv';subst hv';have co10:=hf10.cell (((Fe w9).alloc _).cell co9 id) HHB.out;have fo10:=(hf10.frozen (((Fe w9).alloc _).cell co9 id) HHB.out).trans ((((Fe w9).alloc _).frozen co9 id).trans fo9);have lo10:=lt_of_cell co10;have H10:=Hd (Ai1 hR10 hf10);clear hR10 hf10 ha10)
            | fail)
          go_roundg (n-(i+1))
          case measure=>omega
          case rel =>
            have F11:Fr (λj=>j=bo) w10 (w10.setCell ⟨bo,0,none⟩ (.slice A' (i+1) c')):=(Fl w10).setCell _ _ (λ_=>rfl);refine⟨i+1,_,by go_num,Om,Om,World.cell?_setCell_same' _ _ _ (by rw[co10];rfl),by rw[World.frozen?_setCell];exact fo10,?_,((HG.out.2.ext (HX9.out.alloc _)).trans H10.out.2 (λj hj e=>by have:=HL.out j e;omega)).then F11⟩;rw[HT.out,List.map_append,List.map_cons,List.map_nil,HDT.out];exact H10.out.1.keep F11 (λj hj _ e=>Om)
    · obtain rfl:i=n:=Om
      have hu:=HU.out;subst hu;have n1:¬ be=bo:=by have:=HBB.out;omega
      have n2:¬ bo=be:=by have:=HBB.out;omega
      have be9:=HR.out.2.cell c9 n1;have fe9:=(HR.out.2.frozen c9 n1).trans f9;have lo:=lt_of_cell co;have le:=lt_of_cell be9;go_wp2_with fail
      have F9:Fr (λj=>j=bo\/j=be) wr ((wr.setCell ⟨bo,0,none⟩ (.slice Au i cu)).setCell ⟨be,0,none⟩ (.int .i64 0)):=((Fr.refl (λj=>j=bo\/j=be) wr).setCell ⟨bo,0,none⟩ _ (λ_=>.inl rfl)).setCell ⟨be,0,none⟩ _ (λ_=>.inr rfl);have X9:Zf w ((wr.setCell ⟨bo,0,none⟩ (.slice Au i cu)).setCell ⟨be,0,none⟩ (.int .i64 0)):=(HW.out.1.trans HR.out.2 (λj hj e=>by have:=HBB.out;omega)).trans F9 (λj hj e=>by have:=HBB.out;omega);have R9:=(HR.out.1.keep F9 (λj hj _ e=>by have l:be<w2.heap.size:=lt_of_cell c9;omega)).base HW.out.1.size;have y9:((wr.setCell ⟨bo,0,none⟩ (.slice Au i cu)).setCell ⟨be,0,none⟩ (.int .i64 0)).cell? ⟨be,0,none⟩=some (.int .i64 0):=World.cell?_setCell_same' _ _ _ (by rw[((Fr.refl (λj=>j=bo) wr).setCell ⟨bo,0,none⟩ _ (λ_=>rfl)).cell be9 n1];rfl)
      have y8:((wr.setCell ⟨bo,0,none⟩ (.slice Au i cu)).setCell ⟨be,0,none⟩ (.int .i64 0)).cell? ⟨bo,0,none⟩=some (.slice Au i cu) :=
        ((Fr.refl (λj=>j=be) _).setCell ⟨be,0,none⟩ _ (λ_=>rfl)).cell (World.cell?_setCell_same' _ _ _ (by rw[co];rfl)) n2
      have hTN:TL.take i=TL:=(by rw[HN.out,List.take_length]);rw[hTN]at R9;have H9:=Hd (Ai1 R9 X9);clear F9 X9 R9 be9 fe9 lo le co fo HR hTN;generalize World.setCell _ _ _=w9 at *;refine leaves_cons (f:=68) (args:=#[.pointer (some ⟨bo,0,none⟩),.pointer (some ⟨be,0,none⟩)]) (by simp) (by simp[go_sem]) ?_;refine (Zgl _ _ _).mono ?_;rintro e u' w8 ⟨rfl,rfl,rfl⟩;simp[Leaves,settle,results,Tryz.results24,go_sem,y8,y9];exact⟨H9.out.1,H9.out.2⟩
end Go.Proofs.YtlfoalomaofejaaGreatDoor
