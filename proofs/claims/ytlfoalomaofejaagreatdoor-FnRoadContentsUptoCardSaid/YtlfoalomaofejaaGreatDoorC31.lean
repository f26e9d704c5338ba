/- Tokenizer.Analyze. -/
import Derived.Test.YtlfoalomaofejaaGreatDoorC30
set_option linter.all false
set_option maxRecDepth 100000
set_option maxHeartbeats 4000000
namespace Go.Proofs.YtlfoalomaofejaaGreatDoor
open Go.RowKit DT SS TR LT
abbrev Yh(kd:Nat)(pu:Option Addr)(t:Yw):List Value:=[.int .i64 t.index,.int .i64 t.id,.int .i64 t.cls,.int .i64 t.pos,.int .i64 t.start,.int .i64 t.fin,.string t.surf,.pointer (some ⟨kd,0,none⟩),.pointer pu]
theorem Zg1:∃ i,Tryz.prog.info? 137=some i/\∃ z:Value,i.zero=some z/\i.size=9/\i.bytes=80/\z.cells.size=9:=by
 have h:(Tryz.prog.info? 137).map (λi=>(i.zero.map (λz=>z.cells.size),i.size,i.bytes))=some (some 9,9,80):=Kr
 cases hi:Tryz.prog.info? 137 with
 | none=>rw[hi]at h;cases h
 | some i =>
  rw[hi]at h;simp only[Option.map_some,Option.some.injEq,Prod.mk.injEq]at h;obtain⟨h1,h2,h3⟩:=h
  cases hz:i.zero with
  | none=>rw[hz]at h1;cases h1
  | some z =>
   rw[hz]at h1;exact⟨i,rfl,z,hz,h2,h3,by simpa using h1⟩
theorem Sn{w:World}{B B':Nat}{T:TypeId}{k n:Nat}{v:Value}{xs:List Value}(h:w.ownsRow B T k v n xs)(hb:B'<=B):w.ownsRow B' T k v n xs:=by
 obtain⟨hl,h|⟨g,cap,cur,e,h1,h2⟩⟩:=h
 ·exact⟨hl,.inl h⟩
 ·exact⟨hl,.inr ⟨g,cap,cur,e,Om,h2⟩⟩
theorem Zgk(w:World)(cs:List Value)(T:TypeId):∀ j u,cs[j]?=some u->(w.alloc (.cells cs.toArray T)).cell? ((⟨w.heap.size,0,none⟩:Addr).add j)=some u:=λj u h=>by
 rw[Addr.add_lit,Nat.zero_add];exact Zb (alloc_at w (.cells cs.toArray T)) j u (by simpa using h)
theorem Zg2(kd:Nat)(pu:Option Addr)(t:Yw):∀ u∈Yh kd pu t,u.oneCell'=true:=by
 intro u hu;simp only[Yh,List.mem_cons,List.mem_nil_iff,or_false]at hu;rcases hu with rfl|rfl|rfl|rfl|rfl|rfl|rfl|rfl|rfl<;>rfl
theorem WZ.two{P:Program}{ops:Array Oper}{Q:Exit->Act->World->Prop}{S:World->Prop}{z:Nat}{i j:Nat}{oi oj:Oper}{fuel:Nat}{listed:Array Bool}{a:Act}{w:World}(hi:ops[i]?=some oi)(hj:ops[j]?=some oj)(hr:Region.ready .any ops listed=[i,j])(hz:i<z)(hz2:j<z)
  (h:∀ K':Act->World->Prop,Shut (∀ a w,S w->(S w->WZ P ops Q S z fuel (listed.setIfInBounds i true) a w)->K' a w)->if Region.wanted oi (yielded ops a.tmps)=true then Oper.wp P oi a w K' Q else K' (a.put oi.dst undef) w)
  (h2:∀ K':Act->World->Prop,Shut (∀ a w,S w->(S w->WZ P ops Q S z fuel (listed.setIfInBounds j true) a w)->K' a w)->if Region.wanted oj (yielded ops a.tmps)=true then Oper.wp P oj a w K' Q else K' (a.put oj.dst undef) w):WZ P ops Q S z (fuel+1) listed a w:=by
 intro inv;refine⟨λq=>(by rw[hr]at q;cases q),λk hk=>?_⟩;have hk':k=i\/k=j:=by rw[hr]at hk;simpa using hk
 rcases hk' with rfl|rfl
 ·have him:k∈Region.ready .any ops listed:=by rw[hr];simp
  exact wpOp_step hi (λK' hK=>h K' (λa w hS hW=>hK a w ⟨λ_=>hS,hW hS (inv.set him hz)⟩))
 ·have him:k∈Region.ready .any ops listed:=by rw[hr];simp
  exact wpOp_step hj (λK' hK=>h2 K' (λa w hS hW=>hK a w ⟨λ_=>hS,hW hS (inv.set him hz2)⟩))
theorem Pr{P:Program}{c:Code}{Q:Exit->Act->World->Prop}{a:Act}{w:World}(h:c.wp P (λe a w=>e=.normal/\Q .normal a w) a w):c.wp P Q a w :=
 Code.wp_mono (λe a w h=>by obtain⟨rfl,h2⟩:=h;exact h2) h
theorem Zlz(d:Zg)(hr:Zm d=true)(hd:I4 d)(uk:Option (Nat×List ByteArray))(kd H U:Nat)(s:ByteArray)(hs:Rd s)(hsz:s.size<=300)(om:Bool)(mode:Int)(hG:Tn U)(w:World)(hD:Zx d kd H U w)(hus:∀ x,uk=some x->V7 x.1 x.2 H U w/\Yz x.2)(hT:U8 w) :
  Calls Tryz.prog 123 #[.agg #[.pointer (some ⟨kd,0,none⟩),.pointer (uk.map λx=>⟨x.1,0,none⟩),.bool om],.string s,.int .i64 mode] w λe w' =>
   ∃ v,e=.returned v/\w'.ownsRow w.heap.size 137 9 v (Vn (Z2 d (uk.map (·.2))) om (Oy mode) s).length ((Vn (Z2 d (uk.map (·.2))) om (Oy mode) s).flatMap (Yh kd (uk.map λx=>⟨x.1,0,none⟩)))/\Zf w w':=by
 have mixed:Tryz.prog.follows .mixedOrders=true:=Kr
 obtain⟨pu,hpu⟩:∃ pu,pu=uk.map λx=>(⟨x.1,0,none⟩:Addr):=⟨_,rfl⟩
 obtain⟨D,hDd⟩:∃ D,D=Z2 d (uk.map (·.2)):=⟨_,rfl⟩
 have hus2:∀ ks,uk.map (·.2)=some ks->Yz ks:=λks e=>by
  cases uk with
  | none=>cases e
  | some x=>cases e;exact (hus x rfl).2
 have HB:=Hd (Ai1 hD (Ai1 hus (Ai1 hT (Ai1 hpu hDd))));have HU2:=Hd hus2;have hUw:U<=w.heap.size:=hD.lt.2.2;rw[<- hpu,<- hDd];clear hD hus hT hpu hDd hus2
 go_enter_defers Tryz.func123,Tryz.ntmps123
 go_upto_region 3 with (first
  | (go_at_call 157;refine (Zcn _ _ _).mono ?_;rintro e w1 ⟨rfl,h1,h2⟩;have H1:=Hd (Ai1 h1 h2);clear h1 h2)
  | fail)
 obtain⟨kl,hkl⟩:∃ kl,kl=w.heap.size+1:=⟨_,rfl⟩;rw[<- hkl];have bx:w1.heap[w.heap.size]?=some (.cells #[.pointer (some ⟨kd,0,none⟩),.pointer pu,.bool om] 291 (0,0)):=H1.out.2.heap (alloc_at _ _) id
 have hk1:w1.heap[kl]?=some (.cells #[.string .empty,.slice none 0 0,.slice none 0 0,.pointer (some ⟨kd,0,none⟩),.pointer (uk.map λx=>⟨x.1,0,none⟩)] 300 (0,0)):=by
  have:=H1.out.1;rw[Za,<- hkl,HB.out.2.2.2.1]at this;exact this
 have X1:Zf w w1:=((Fl w).alloc _).ext H1.out.2;have CB:=Hd (Df d hr hd uk kd H U kl s hs hsz hG w1 hk1 Om (HB.out.1.keep X1 (λ_ _ _=>id)) (λx e=>⟨(HB.out.2.1 x e).1.keep X1 (λ_ _ _=>id),(HB.out.2.1 x e).2⟩) (HB.out.2.2.1.ext X1));have HX1:=Hd (Ai1 X1 (Ai1 bx (Ai1 hkl (Gs1.1 hk1).1)));clear X1 bx hkl hk1 H1
 go_upto_region 4 with (first
  | (go_at_call 159;refine CB.out.mono ?_;rintro e w2 ⟨rfl,g,vs,nb,b1,b2,b3,b4,b5⟩;have H2:=Hd (Ai1 b1 (Ai1 b2 (Ai1 b3 (Ai1 b4 b5))));clear b1 b2 b3 b4 b5)
  | fail)
 obtain⟨R,hRe⟩:∃ R,R=Lib.runeCount s+2:=⟨_,rfl⟩;obtain⟨ns,hns⟩:∃ ns,ns=lat D s:=⟨_,rfl⟩
 have H2:Hid (Ym w2 g R vs ns nb (λ_=>0) (λ_=>none)/\w2.heap[kl]?=some (.cells (Tf s (.slice none 0 0) g R R (.pointer (some ⟨kd,0,none⟩)) (.pointer pu)) 300 (0,0))/\(∀ j,Yt g R vs j->w1.heap.size<=j/\j≠kl)/\(∀ m,m<ns.length->w1.heap.size<=nb m)/\Fr (λj=>j=kl\/w1.heap.size<=j) w1 w2):=by
  have:=H2.out;rw[<- hRe,<- HB.out.2.2.2.2,<- hns,<- HB.out.2.2.2.1]at this;exact this
 clear CB;have HE:=Hd (Ai1 hRe hns);have hR2:R<=302:=by have:=Lib.runeCount_le s;omega
 have hR1:2<=R:=Om
 clear hRe hns;obtain⟨md,hmd⟩:∃ md,md=Oy mode:=⟨_,rfl⟩;have HMD:=Hd hmd;clear hmd
 go_upto_block 0 with fail
 go_cut [8] from 23 to 29 (λv8 wx=>v8=.int .i64 md/\w2=wx)
 case first =>
  have em:=HMD.out;unfold Oy at em;by_cases m1:mode=1
  ·subst m1;have em:md=1:=(by simpa using em);have EM:=Hd em;clear em;go_wp2_with fail
   go_meet
   case rel=>exact⟨by rw[EM.out],rfl⟩
  ·by_cases m2:mode=2
   ·subst m2;have em:md=2:=(by simpa using em);have EM:=Hd em;clear em m1;go_wp2_with fail
    go_meet
    case rel=>exact⟨by rw[EM.out],rfl⟩
   ·by_cases m3:mode=3
    ·subst m3;have em:md=3:=(by simpa using em);have EM:=Hd em;clear em m1 m2;go_wp2_with fail
     go_meet
     case rel=>exact⟨by rw[EM.out],rfl⟩
    ·rw[if_neg m2,if_neg m3]at em;have EM:=Hd em;have e1:(mode==1)=false:=(by simpa using m1);have e2:(mode==2)=false:=(by simpa using m2);have e3:(mode==3)=false:=(by simpa using m3);clear em m1 m2 m3;go_wp2_with fail
     go_meet
     case rel=>exact⟨by rw[EM.out],rfl⟩
 case rest =>
 obtain⟨rfl,e5⟩:=hcut;subst e5;go_step;refine wp_seq_k λK hK=>?_
 have hk2:=H2.out.2.1
 have DA:Zx d kd H U w2:=by
  have:=HX1.out.1.size;exact (HB.out.1.keep HX1.out.1 (λ_ _ _=>id)).keep H2.out.2.2.2.2 (λb _ hb e=>by have:=HX1.out.2.2.1;omega)
 have hnb:∀ m,m<ns.length->U<=nb m/\nb m≠kl:=λm hm=>by
  have:=H2.out.2.2.2.1 m hm;have:=HX1.out.1.size;have:=HX1.out.2.2.2;omega
 have hnok:∀ x∈ns,Zbp d R x:=by
  rw[HE.out.2,HE.out.1,HB.out.2.2.2.2];exact Zid hr hd _ HU2.out hs hsz
 have hnl:ns.length<=1000000000:=by
  have h1:=Je hr hd (uk.map (·.2)) HU2.out s hsz (Lib.runeCount s) (by rw[Sm];omega);have h2:=Lib.runeCount_le s;have:ns.length<=2+Lib.runeCount s*400000:=by rw[HE.out.2,HB.out.2.2.2.2];exact h1
  omega
 have CF:=Zlk d hr (uk.map (·.2)) kd H U kl g R R vs ns nb md w2 (Zb hk2 2 _ rfl) (Zb hk2 3 _ rfl) DA H2.out.1 hnok hnb Om Om hnl;rw[<- HB.out.2.2.2.2]at CF;have HCF:=Hd CF;have HNB:=Hd (Ai1 hnb hnl);clear CF hk2 DA hnb hnok hnl;obtain⟨st,hst⟩:∃ st,st=Vs D md ns R:=⟨_,rfl⟩
 go_upto_region 13 with (first
  | (go_at_call 160;refine HCF.out.mono ?_;rintro e w3 ⟨rfl,b1,b2⟩;have H3:=Hd (Ai1 b1 b2);clear b1 b2)
  | fail)
 have H3:Hid (Ym w3 g R vs ns nb st.cost st.prev/\Fr (λj=>∃ m,m<ns.length/\j=nb m) w2 w3):=by rw[hst];exact H3.out
 have hk3:w3.heap[kl]?=some (.cells (Tf s (.slice none 0 0) g R R (.pointer (some ⟨kd,0,none⟩)) (.pointer pu)) 300 (0,0)) :=
  H3.out.2.heap H2.out.2.1 (by rintro⟨m,hm,e⟩;exact (HNB.out.1 m hm).2 e.symm)
 have hlo:=Nz hr hd (uk.map (·.2)) HU2.out hs hsz;rw[<- HB.out.2.2.2.2,<- HE.out.2]at hlo;have ht0:(LT.row ns (R-1))[0]?=some 1:=by rw[HE.out.2,HE.out.1];exact Eq D s
 have CW:=Hd (Zlx kl g R R vs ns nb st.cost st.prev md s (.pointer (some ⟨kd,0,none⟩)) (.pointer pu) 1 w3 hk3 H3.out.1 (λm hm=>(HNB.out.1 m hm).2) (λe=>(H2.out.2.2.1 kl e).2 rfl) Om Om ht0 (by rw[hst];exact Ma D md ns hlo.2 R) hlo.1 (by rw[hst];exact G9 D md ns R));have HST:=Hd hst;clear hlo ht0 hst HCF
 go_upto_region 14 with (first
  | (go_at_call 161;refine CW.out.mono ?_;rintro e w4 ⟨rfl,vo,bs,b1⟩;have H4:=Hd b1;clear b1)
  | fail)
 obtain⟨tb,htb⟩:∃ tb,tb=w.heap.size:=⟨_,rfl⟩;rw[<- htb]
 have bx4:w4.heap[tb]?=some (.cells #[.pointer (some ⟨kd,0,none⟩),.pointer pu,.bool om] 291 (0,0)):=by
  have hk:=HX1.out.2.2.1;have hl:=HX1.out.2.2.2;rw[htb];refine H4.out.fr.heap (H3.out.2.heap (H2.out.2.2.2.2.heap HX1.out.2.1 Om) ?_) Om;rintro⟨m,hm,e⟩;have:=H2.out.2.2.2.1 m hm;omega
 obtain⟨outs,houts⟩:∃ outs,outs=M8 D md s:=⟨_,rfl⟩
 have hbs:bs.map (·.2)=outs:=by
  have:=H4.out.eq;rw[List.append_nil]at this;rw[this,houts,HST.out,HE.out.2,HE.out.1];rfl
 obtain⟨l,hl⟩:∃ l,l=outs.reverse:=⟨_,rfl⟩;obtain⟨n,hn⟩:∃ n,n=bs.length:=⟨_,rfl⟩;have hol:outs.length=n:=by rw[<- hbs,List.length_map,hn]
 have HOK:Hid (∀ y∈bs.map (·.2),y.start<=2000000/\y.surf.size<=1000):=by
  show ∀ y∈_,_;rw[hbs,houts,HB.out.2.2.2.2];exact Zdv hr hd _ HU2.out hs hsz md
 have htoks:Vn D om md s=Vi om l n:=by
  unfold Vn;rw[<- houts,<- hl,hol]
 have HTK:=Hd htoks
 have HL:Hid (∀ i (hi:i<n),∃ h2:n-1-i<bs.length,(bs[n-1-i]'h2).2=l.getD i default):=λi hi=>by
  have h2:n-1-i<bs.length:=Om
  refine⟨h2,?_⟩;rw[hl,List.getD_eq_getElem?_getD,List.getElem?_reverse Om,hol,<- hbs,List.getElem?_map,Ge h2];rfl
 have hnb:n<=1000000000:=by
  have h4:=H4.out.eq;have hlen:=congrArg List.length h4;rw[List.append_nil,List.length_map]at hlen;have hlo:=(Nz hr hd (uk.map (·.2)) HU2.out hs hsz);rw[<- HB.out.2.2.2.2,<- HE.out.2]at hlo;have hdesc:Zgs ns st.prev:=by rw[HST.out];exact Ma D md ns hlo.2 R
  obtain⟨t1,t2⟩:=Vo (List.mem_of_getElem? (show (LT.row ns (R-1))[0]?=some 1 by rw[HE.out.2,HE.out.1];exact Eq D s))
  have h5:((U6 ns st.prev (some 1)).flatMap (λm=>Y8 md (ns.getD m default))).length<=R*1000:=by
   refine Nt (Qh _ 1000 _ (λm hm=>Ox md _ ?_)) (Nat.mul_le_mul_right _ (Ja (ns:=ns) (prev:=st.prev) R 1 (by rw[t2];omega)));have hml:=Ps hdesc _ _ t1 m hm;have e:ns.getD m default=ns[m]:=by rw[List.getD_eq_getElem?_getD,Ge hml];rfl
   rw[e];exact (hlo.1 _ (List.getElem_mem hml)).size
  omega
 obtain⟨Ao,co,hvo⟩:=Zl H4.out.out.1;subst hvo;rw[<- hn]at H4;have k1:w4.cell? ⟨kl,1,none⟩=some (.slice Ao n co):=Zb H4.out.lat 1 _ rfl;have lkl:=lt_of_cell k1;obtain⟨zi,hzi,z,hz,hz2,hz3,hz4⟩:=Zg1;obtain⟨zc,hzc⟩:∃ zc,zc=z.cells:=⟨_,rfl⟩
 have hmk:∀ W:World,(Instr.makeSlice 130 (.int .i64 0) (.int .i64 (n:Int))).run Tryz.prog W=.ok (.slice (some ⟨W.heap.size,0,none⟩) 0 n) (W.alloc (.cells (madeCells zc (n*9)) 137)):=λW=>by
  have:=run_make (P:=Tryz.prog) W 130 137 zi _ Tryz.underlying130 hzi hz .i64 .i64 0 (n:Nat) Om Om (by rw[hz3];omega) Om;rw[hz2,<- hzc]at this;simpa using this
 have HZ:=Hd (Ai1 hz (Ai1 hz4 (Ai1 hzc hz2)));clear hz hz4 hzc;have HN:=Hd (Ai1 hn (Ai1 htb hol));have HBX:=Hd bx4;clear hn htb hol hbs houts hl htoks bx4
 have HTS:Hid ((w4.alloc (.cells (madeCells zc (n*9)) 137)).ownsRow w4.heap.size 137 9 (.slice (some ⟨w4.heap.size,0,none⟩) 0 n) (Vi om l 0).length ((Vi om l 0).flatMap (Yh kd pu))/\Zf w4 (w4.alloc (.cells (madeCells zc (n*9)) 137))) :=
  ⟨World.ownsRow_made w4 _ n (Nl _) (by unfold maxLen;omega) (by rw[size_madeCells]),(Fl _).alloc _⟩
 go_wp2_with fail
 clear hmk
 go_loopg [10,48] n (λg1 v10 v48 wr=>∃ (i:Nat) (v:Value),v10=v/\v48=.int .i64 (i:Int)/\i<=n/\n<=i+g1/\Hid (wr.ownsRow w4.heap.size 137 9 v (Vi om l i).length ((Vi om l i).flatMap (Yh kd pu))/\Zf w4 wr))
 case atStart=>exact⟨0,_,rfl,rfl,Om,Om,HTS⟩
 case round =>
  clear HTS k1 lkl;obtain⟨i,v,rfl,rfl,hi,hg1,HS⟩:=hrel;have k1:wr.cell? ⟨kl,1,none⟩=some (.slice Ao n co):=HS.out.2.cell (Zb H4.out.lat 1 _ rfl) id;have lkl:=lt_of_cell k1;by_cases hlt:i<n
  ·have hlz:(i:Int)<(n:Int):=Om;obtain⟨m,hme⟩:∃ m,m=n-1-i:=⟨_,rfl⟩;obtain⟨hml,hx⟩:=HL.out i hlt;rw[<- hme]at hml;simp only[<- hme]at hx;obtain⟨x,hxe⟩:∃ x,x=bs[m].2:=⟨_,rfl⟩;obtain⟨b,hbe⟩:∃ b,b=bs[m].1:=⟨_,rfl⟩;obtain⟨cst,prv,_,hnode⟩:=H4.out.out.2 _ (List.getElem_mem hml);rw[<- hxe,<- hbe]at hnode;have hnode:=HS.out.2.heap hnode id;obtain⟨gs,cs,es,ec,_⟩:=Vb H4.out.out.1 m (by have:=HN.out.1;omega);simp only[Value.slice.injEq]at es;obtain⟨rfl,hdum,rfl⟩:=es;clear hdum;rw[List.getElem?_map,Ge hml]at ec;replace ec:wr.cell? ⟨gs,m,none⟩=some (.pointer (some ⟨b,0,none⟩)):=HS.out.2.cell (by rw[hbe];exact ec) id;have hox:x.start<=2000000/\x.surf.size<=1000:=HOK.out x (by rw[hxe];exact List.mem_map_of_mem (List.getElem_mem hml));have hxi:l.getD i default=x:=(by rw[hxe,hx]);have n0:wr.cell? ⟨b,0,none⟩=some (.int .i64 x.id):=Zb hnode 0 _ rfl;have n1:wr.cell? ⟨b,1,none⟩=some (.int .i64 x.pos):=Zb hnode 1 _ rfl;have n2:wr.cell? ⟨b,2,none⟩=some (.int .i64 x.start):=Zb hnode 2 _ rfl;have n3:wr.cell? ⟨b,3,none⟩=some (.int .i64 x.cls):=Zb hnode 3 _ rfl;have n8:wr.cell? ⟨b,8,none⟩=some (.string x.surf):=Zb hnode 8 _ rfl;have hbx:=HS.out.2.heap HBX.out id;have t0:wr.cell? ⟨tb,0,none⟩=some (.pointer (some ⟨kd,0,none⟩)):=Zb hbx 0 _ rfl;have t1:wr.cell? ⟨tb,1,none⟩=some (.pointer pu):=Zb hbx 1 _ rfl;have t2:wr.cell? ⟨tb,2,none⟩=some (.bool om):=Zb hbx 2 _ rfl;have lb:=lt_of_cell n0;have lt0:=lt_of_cell t0;have lgs:=lt_of_cell ec;have y1:IntKind.i64.wrap ((n:Int)-1)=(n:Int)-1:=by rw[IntKind.wrap_i64];omega
   have y3:(n:Int)-1-(i:Int)=(m:Int):=Om;have y2:IntKind.i64.wrap ((n:Int)-1-(i:Int))=(m:Int):=by rw[IntKind.wrap_i64];omega
   have y6:IntKind.i64.wrap (m:Int)=(m:Int):=by rw[IntKind.wrap_i64];omega
   have y5:(0:Int)<=(m:Int):=Om;have y7:(m:Int)<(n:Int):=Om;have HXI:=Hd (Ai1 hxi (Ai1 hme hnode));clear hxi hme hnode hxe hbe hbx hml hx;obtain⟨sk,hsk⟩:∃ sk,sk=(om&&(x.id == -1)):=⟨_,rfl⟩;go_upto_region 20 with fail
   go_cut [69] from 61 to 69 (λv69 wx=>v69=.bool sk/\wr=wx)
   case first =>
    cases om with
    | false =>
     have hsk:sk=false:=hsk;go_wp2_with fail
     go_meet
     case rel=>exact⟨by rw[hsk],rfl⟩
    | true =>
     have hsk:sk=(x.id == -1):=hsk;have HSK:=Hd hsk;clear hsk;go_wp2_with fail
     go_meet
     case rel=>exact⟨by rw[HSK.out],rfl⟩
   case rest =>
   obtain⟨rfl,e5⟩:=hcut;subst e5;go_step
   have HSK:Hid (sk=true↔(om=true/\x.id = -1)):=by
    show _↔_;rw[hsk];simp
   clear hsk
   cases sk with
   | true =>
    have HST2:Hid (Vi om l (i+1)=Vi om l i):=by
     show Qp om i (Vi om l i) (l.getD i default)=_;rw[HXI.out.1];unfold Qp;rw[if_pos (HSK.out.1 rfl)]
    go_wp2_with fail
    go_roundg (n-(i+1))
    case measure=>omega
    case rel=>exact⟨i+1,u10,rfl,by go_num,Om,Om,by rw[HST2.out];exact HS.out⟩
   | false =>
    obtain⟨At,ct,hu⟩:=Zl HS.out.1;subst hu;obtain⟨nt,hnt⟩:∃ nt,nt=(Vi om l i).length:=⟨_,rfl⟩;have hnt2:nt<=1000000000:=by have:=Lq om l i;omega
    obtain⟨q,hq⟩:∃ q,q=Lib.runeCount x.surf:=⟨_,rfl⟩;have C1:=λW=>R3 x.surf W Om
    have hq2:q<=1000:=by have:=Lib.runeCount_le x.surf;omega
    rw[<- hq]at C1;rw[<- hnt];have HQ:=Hd (Ai1 hq hnt);clear hq hnt;have y8:IntKind.i64.wrap ((x.start:Int)+(q:Int))=(x.start:Int)+(q:Int):=by rw[IntKind.wrap_i64];omega
    go_upto_region 21 with fail
    have hS:∀ W,Zf wr W->W.cell? ⟨b,0,none⟩=some (.int .i64 x.id)/\W.cell? ⟨b,1,none⟩=some (.int .i64 x.pos)/\W.cell? ⟨b,2,none⟩=some (.int .i64 x.start)/\W.cell? ⟨b,3,none⟩=some (.int .i64 x.cls)/\W.cell? ⟨b,8,none⟩=some (.string x.surf)/\W.cell? ⟨tb,0,none⟩=some (.pointer (some ⟨kd,0,none⟩))/\W.cell? ⟨tb,1,none⟩=some (.pointer pu):=λW f =>
     ⟨f.cell n0 id,f.cell n1 id,f.cell n2 id,f.cell n3 id,f.cell n8 id,f.cell t0 id,f.cell t1 id⟩
    have HSS:=Hd hS;clear hS;obtain⟨tk,htk⟩:∃ tk:Yw,tk=⟨nt,x.id,x.cls,x.pos,x.start,x.start+q,x.surf⟩:=⟨_,rfl⟩
    go_cut [13] from 70 to 106 (λv13 wx=>∃ bk,v13=.pointer (some ⟨bk,0,none⟩)/\Hid (wx.heap[bk]?=some (.cells (Yh kd pu tk).toArray 137 (0,0))/\wr.heap.size<=bk/\Zf wr wx))
    case first =>
     refine Pr ?_;refine Ya 38 39 #[false,false,false,false,false,false,false,false,false,false,false,false,false,false,false,false,false,false,false,false,false,false,false,false,false,false,false,false,false,false,false,false,false,false,false,false,false,false,false] (λW=>W.cell? ⟨b,0,none⟩=some (.int .i64 x.id)/\W.cell? ⟨b,1,none⟩=some (.int .i64 x.pos)/\W.cell? ⟨b,2,none⟩=some (.int .i64 x.start)/\W.cell? ⟨b,3,none⟩=some (.int .i64 x.cls)/\W.cell? ⟨b,8,none⟩=some (.string x.surf)/\W.cell? ⟨tb,0,none⟩=some (.pointer (some ⟨kd,0,none⟩))/\W.cell? ⟨tb,1,none⟩=some (.pointer pu)) mixed rfl rfl (HSS.out wr.drew ((Fl wr).drew)) (λhS=>?_);refine WL.go [(0,70),(1,71),(2,72),(3,73),(4,74),(5,75),(6,76),(7,77),(8,78),(9,79),(10,80),(11,81),(12,82),(13,83),(14,84),(15,85),(16,86),(17,87),(18,88),(19,89),(20,90),(21,91),(22,92),(23,93),(24,94),(25,95),(28,98),(29,99),(30,100),(31,101),(32,102),(33,103),(34,104),(35,105)] ?_;iterate 34 (refine WL.tk (v:=?_) rfl rfl Kr (λ_ _ _ h=>nomatch h.1) (Or.inl ⟨Rf,?_⟩) (by assumption) ?_;rotate_left;(focus (intro w hSw;(try obtain⟨s0,s1,s2,s3,s4,s5,s6⟩:=hSw);go_simp;(try with_reducible rfl)));simp only[Act.put,Sa,Sb1,Sc])
     refine WZ.two (i:=26) (j:=37) rfl rfl Kr (by decide) (by decide) (λK hK=>?_) (λK hK=>?_)
     ·go_simp;go_wp2_with (go_at_call 162;refine (C1 _).mono ?_;rintro e w5 ⟨rfl,hx5⟩;have HX5:=Hd (((Fe wr).drew).ext hx5);clear hx5);refine hK.out _ _ (HSS.out w5 HX5.out) (λhSa=>?_);clear hK K;try simp only[Act.put,Sa,Sb1,Sc]
      refine WL.go [(27,97),(36,106)] ?_;iterate 2 (refine WL.tk (v:=?_) rfl rfl Kr (λ_ _ _ h=>nomatch h.1) (Or.inl ⟨Rf,?_⟩) (by assumption) ?_;rotate_left;(focus (intro w hSw;(try obtain⟨s0,s1,s2,s3,s4,s5,s6⟩:=hSw);go_simp;(try with_reducible rfl)));simp only[Act.put,Sa,Sb1,Sc])
      refine WZ.one (i:=37) rfl Kr (by decide) (λK hK=>?_);go_simp;refine hK.out _ _ (HSS.out _ (HX5.out.alloc _)) (λhSr21_37=>?_);clear hK K;try simp only[Act.put,Sa,Sb1,Sc]
      refine WZ.last rfl Kr Kr (λK hK=>?_);go_simp;refine hK.out _ _ ?_;clear hK K;refine Ai1 rfl ?_;go_wp2_with fail
      go_meet
      case rel =>
       refine⟨w5.heap.size,rfl,?_,HX5.out.size,HX5.out.alloc _⟩;rw[htk];exact alloc_at _ _
     ·go_simp;refine hK.out _ _ (HSS.out _ (((Fe wr).drew).alloc _)) (λhSa=>?_);clear hK K;try simp only[Act.put,Sa,Sb1,Sc]
      refine WZ.one (i:=26) rfl Kr (by decide) (λK hK=>?_);go_simp;go_wp2_with (go_at_call 162;refine (C1 _).mono ?_;rintro e w5 ⟨rfl,hx5⟩;have HX5:=Hd hx5;clear hx5)
      refine hK.out _ _ (HSS.out w5 ((((Fe wr).drew).alloc _).ext HX5.out)) (λhSb=>?_);clear hK K;have hzb:w5.heap[wr.heap.size]?=some (.cells #[.int .i64 0,.int .i64 0,.int .i64 0,.int .i64 0,.int .i64 0,.int .i64 0,.string .empty,.pointer none,.pointer none] 137 (0,0)):=HX5.out.heap (alloc_at _ _) id;have hzl:=(Gs1.1 hzb).1;have hz0:w5.cell? ⟨wr.heap.size,0,none⟩=some (.int .i64 0):=Zb hzb 0 _ rfl;have hz1:w5.cell? ⟨wr.heap.size,1,none⟩=some (.int .i64 0):=Zb hzb 1 _ rfl;have hz2:w5.cell? ⟨wr.heap.size,2,none⟩=some (.int .i64 0):=Zb hzb 2 _ rfl;have hz3:w5.cell? ⟨wr.heap.size,3,none⟩=some (.int .i64 0):=Zb hzb 3 _ rfl;have hz4:w5.cell? ⟨wr.heap.size,4,none⟩=some (.int .i64 0):=Zb hzb 4 _ rfl;have hz5:w5.cell? ⟨wr.heap.size,5,none⟩=some (.int .i64 0):=Zb hzb 5 _ rfl;have hz6:w5.cell? ⟨wr.heap.size,6,none⟩=some (.string .empty):=Zb hzb 6 _ rfl;have hz7:w5.cell? ⟨wr.heap.size,7,none⟩=some (.pointer none):=Zb hzb 7 _ rfl;have hz8:w5.cell? ⟨wr.heap.size,8,none⟩=some (.pointer none):=Zb hzb 8 _ rfl;have hzf:=Zi hzb;have HZB:=Hd hzb;clear hzb;try simp only[Act.put,Sa,Sb1,Sc]
      refine WL.go [(27,97),(36,106)] ?_;iterate 2 (refine WL.tk (v:=?_) rfl rfl Kr (λ_ _ _ h=>nomatch h.1) (Or.inl ⟨Rf,?_⟩) (by assumption) ?_;rotate_left;(focus (intro w hSw;(try obtain⟨s0,s1,s2,s3,s4,s5,s6⟩:=hSw);go_simp;(try with_reducible rfl)));simp only[Act.put,Sa,Sb1,Sc])
      refine WZ.last rfl Kr Kr (λK hK=>?_);go_simp;refine hK.out _ _ ?_;clear hK K;refine Ai1 rfl ?_;go_wp2_with fail
      go_meet
      case rel =>
       refine⟨wr.heap.size,rfl,?_,Nl _,?_⟩
       ·rw[htk];exact Xf (Xf (Xf (Xf (Xf (Xf (Xf (Xf (Xf HZB.out 0 _) 1 _) 2 _) 3 _) 4 _) 5 _) 6 _) 7 _) 8 _
       ·have X5:Zf wr w5:=(((Fe wr).drew).alloc _).ext HX5.out;have hi:∀ h:wr.heap.size<wr.heap.size,False:=λh=>Nat.lt_irrefl _ h
        exact ((((((((X5.setCell ⟨wr.heap.size,0,none⟩ _ hi).setCell ⟨wr.heap.size,1,none⟩ _ hi).setCell ⟨wr.heap.size,2,none⟩ _ hi).setCell ⟨wr.heap.size,3,none⟩ _ hi).setCell ⟨wr.heap.size,4,none⟩ _ hi).setCell ⟨wr.heap.size,5,none⟩ _ hi).setCell ⟨wr.heap.size,6,none⟩ _ hi).setCell ⟨wr.heap.size,7,none⟩ _ hi).setCell ⟨wr.heap.size,8,none⟩ _ hi
    case rest =>
    obtain⟨bk,rfl,HK5⟩:=hcut;clear HSS C1 n0 n1 n2 n3 n8 t0 t1 t2 ec y1 y2 y3 y6 y8 k1 lkl lb lt0 lgs;go_step;refine wp_seq_k λK hK=>?_
    have p1:wc.cell? ⟨bk,1,none⟩=some (.int .i64 x.id):=Zb HK5.out.1 1 _ (by rw[htk];rfl);have p6:wc.cell? ⟨bk,6,none⟩=some (.string x.surf):=Zb HK5.out.1 6 _ (by rw[htk];rfl);have pf:=Zi HK5.out.1;have pf6:=pf 6;have lbk:=lt_of_cell p1;clear pf;obtain⟨tk2,htk2⟩:∃ tk2:Yw,tk2=⟨nt,x.id,x.cls,x.pos,x.start,x.start+q,if x.id = -1 then (if i=0 then Znp else Znn) else x.surf⟩:=⟨_,rfl⟩
    go_cut [] from 107 to 113 (λwx=>Hid (wx.heap[bk]?=some (.cells (Yh kd pu tk2).toArray 137 (0,0))/\Zf wr wx))
    case first =>
     have HT2:=Hd (Ai1 htk htk2);clear htk htk2;by_cases hid:x.id = -1
     ·have hidb:(x.id == -1)=true:=(by simpa using hid);have HID:=Hd hid;clear hid;by_cases hi0:i=0
      ·have hib:((i:Int)==0)=true:=(by simpa using hi0);have HI0:=Hd hi0;clear hi0;go_wp2_with fail
       go_meet
       case rel =>
        refine⟨?_,HK5.out.2.2.setCell ⟨bk,6,none⟩ _ (λh=>by have:=HK5.out.2.1;simp only at h;omega)⟩;rw[HT2.out.2,if_pos HID.out,if_pos HI0.out];have:=HK5.out.1;rw[HT2.out.1]at this;exact Xf this 6 _
      ·have hib:((i:Int)==0)=false:=(by simpa using hi0);have HI0:=Hd hi0;clear hi0;go_wp2_with fail
       go_meet
       case rel =>
        refine⟨?_,HK5.out.2.2.setCell ⟨bk,6,none⟩ _ (λh=>by have:=HK5.out.2.1;simp only at h;omega)⟩;rw[HT2.out.2,if_pos HID.out,if_neg HI0.out];have:=HK5.out.1;rw[HT2.out.1]at this;exact Xf this 6 _
     ·have hidb:(x.id == -1)=false:=(by simpa using hid);have HID:=Hd hid;clear hid;go_wp2_with fail
      go_meet
      case rel =>
       refine⟨?_,HK5.out.2.2⟩;rw[HT2.out.2,if_neg HID.out];have:=HK5.out.1;rw[HT2.out.1]at this;exact this
    case rest =>
    have HK6:=hcut;clear hcut p1 p6 pf6 lbk HK5;have HTK2:=Hd htk2;clear htk htk2;have p0:wc.cell? ⟨bk,0,none⟩=some (.int .i64 tk2.index):=Zb HK6.out.1 0 _ rfl;have p1:wc.cell? ⟨bk,1,none⟩=some (.int .i64 tk2.id):=Zb HK6.out.1 1 _ rfl;have p2:wc.cell? ⟨bk,2,none⟩=some (.int .i64 tk2.cls):=Zb HK6.out.1 2 _ rfl;have p3:wc.cell? ⟨bk,3,none⟩=some (.int .i64 tk2.pos):=Zb HK6.out.1 3 _ rfl;have p4:wc.cell? ⟨bk,4,none⟩=some (.int .i64 tk2.start):=Zb HK6.out.1 4 _ rfl;have p5:wc.cell? ⟨bk,5,none⟩=some (.int .i64 tk2.fin):=Zb HK6.out.1 5 _ rfl;have p6:wc.cell? ⟨bk,6,none⟩=some (.string tk2.surf):=Zb HK6.out.1 6 _ rfl;have p7:wc.cell? ⟨bk,7,none⟩=some (.pointer (some ⟨kd,0,none⟩)):=Zb HK6.out.1 7 _ rfl;have p8:wc.cell? ⟨bk,8,none⟩=some (.pointer pu):=Zb HK6.out.1 8 _ rfl;have lbk:=lt_of_cell p0
    have HOWN:Hid (wc.ownsRow w4.heap.size 137 9 (.slice At nt ct) nt ((Vi om l i).flatMap (Yh kd pu))):=by
     have:=Zs HS.out.1 HK6.out.2 (λ_ _=>id);rw[<- HQ.out.2]at this;exact this
    have hw4:w4.heap.size<=wc.heap.size:=by have:=HS.out.2.size;have:=HK6.out.2.size;omega
    have hz:=HZ.out.1;have hz4:=HZ.out.2.1;have HZZ:=Hd (Ai1 hz (Ai1 hz4 (Ai1 hz2 hz3)));clear hz hz4
    go_wp2_with (first
     | (at_builtin;refine wpList_append_own_at _ rfl _ _ 130 rfl w4.heap.size 137 zi z 9 80 Tryz.underlying130 hzi HZZ.out.1 hz2 hz3 HZZ.out.2.1 (by decide) (.slice At nt ct) nt _ rfl (HOWN.out.alloc _) ⟨wc.heap.size,0,none⟩ 1 1 (Yh kd pu tk2) rfl rfl (Zgk _ _ _) (Zg2 kd pu tk2) (by unfold maxLen;omega) Om (by simp;omega) ?_;intro v' w7 hown' hgrow hnil' hat;have HE:=Hd (Ai1 hown' hgrow);clear hown' hgrow hnil' hat)
     | fail)
    go_roundg (n-(i+1))
    case measure=>omega
    case rel =>
     refine⟨i+1,v',rfl,by go_num,Om,Om,?_⟩
     have e:Vi om l (i+1)=Vi om l i++[tk2]:=by
      show Qp om i (Vi om l i) (l.getD i default)=_;rw[HXI.out.1];unfold Qp;rw[if_neg (λh=>by have:=HSK.out.2 h;cases this),HTK2.out,<- HQ.out.2,<- HQ.out.1]
     rw[e,List.length_append,List.length_singleton,List.flatMap_append,<- HQ.out.2];simp only[List.flatMap_cons,List.flatMap_nil,List.append_nil];have X:Zf w4 (wc.alloc (.cells (Yh kd pu tk2).toArray 137)):=(HS.out.2.ext HK6.out.2).alloc _;exact⟨HE.out.1,X.trans ((Fr.refl (λj=>(Value.slice At nt ct).ownBlock=some j) _).grown HE.out.2 (λk e _=>e)) (λj hj e=>by have:=(HOWN.out.lt j e).1;omega)⟩
  ·have hge:¬ (i:Int)<(n:Int):=Om;go_wp2_with fail
   obtain rfl:i=n:=Om
   have hkl4:kl<w4.heap.size:=(Gs1.1 H4.out.lat).1;have hkl3:kl<w3.heap.size:=(Gs1.1 hk3).1;have hlo:∀ j,Yt g R vs j->j<w4.heap.size:=λj hj=>H4.out.rows.lt Om j hj
   have hlo3:∀ j,Yt g R vs j->j<w3.heap.size:=λj hj=>H3.out.1.lt Om j hj
   have HQ:FQ kl g R R s (.slice Ao i co) (.pointer (some ⟨kd,0,none⟩)) (.pointer pu) (λj=>j=kl\/Yt g R vs j\/(Value.slice Ao i co).ownBlock=some j) wr wr:=by
    have hr4:=H4.out.rows.ext HS.out.2;refine⟨HS.out.2.heap H4.out.lat id,R6.own (Zs H4.out.out.1 HS.out.2 (λ_ _=>id)) (λj e=>⟨.inr (.inr e),?_,?_⟩),λp hp=>⟨vs p,(hr4.cell p hp).1,(hr4.cell p hp).2,R6.own (hr4.row p hp) (λj e=>⟨.inr (.inl (.inr ⟨p,hp,e⟩)),(H2.out.2.2.1 j (.inr ⟨p,hp,e⟩)).2,λq=>hr4.offg p hp (by rw[e,q])⟩)⟩,.inl rfl,.inr (.inl (.inl rfl)),(H2.out.2.2.1 g (.inl rfl)).2,Fl _⟩
    ·have:=(H4.out.out.1.lt j e).1;omega
    ·have:=(H4.out.out.1.lt j e).1;have:=hlo3 g (.inl rfl);omega
   refine leaves_cons (f:=158) (args:=#[.pointer (some ⟨kl,0,none⟩)]) (by simp) (by simp[go_sem]) ?_;refine (Zmr kl g R R s _ _ _ _ .returning wr HQ Om (Nl _) Om).mono ?_;rintro e u' w8 ⟨rfl,rfl,hfr⟩;refine⟨_,results_tmp rfl _ _ _,u10,rfl,?_,?_⟩
   ·rw[<- HMD.out,HTK.out];have h0:=HS.out.1
    have h1:=Zs h0 hfr (λj e=>by
     have:=(h0.lt j e).1;rintro (q|q|q)
     ·omega
     ·have:=hlo j q;omega
     ·have:=(H4.out.out.1.lt j q).2;omega)
    refine Sn h1 ?_;have:=HX1.out.1.size;have:=H2.out.2.2.2.2.size;have:=H3.out.2.size;have:=H4.out.fr.size;omega
   ·have hk:=HX1.out.2.2.1;have X2:Zf w w2:=HX1.out.1.trans H2.out.2.2.2.2 (λj hj e=>by have:=HX1.out.1.size;omega);have X3:Zf w w3:=X2.trans H3.out.2 (by rintro j hj ⟨m,hm,e⟩;have:=H2.out.2.2.2.1 m hm;have:=HX1.out.1.size;omega);have X4:Zf w wr:=(X3.trans H4.out.fr (λj hj e=>Om)).then HS.out.2;refine X4.trans hfr ?_;rintro j hj (q|q|q)
    ·omega
    ·have:=(H2.out.2.2.1 j q).1;have:=HX1.out.1.size;omega
    ·have:=(H4.out.out.1.lt j q).1;have:=X3.size;omega
end Go.Proofs.YtlfoalomaofejaaGreatDoor
